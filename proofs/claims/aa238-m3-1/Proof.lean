import JvmDerived
import JvmDerived.Pilot.@@N@@Statement
import JvmDerived.Pilot.@@N@@Code
set_option linter.unusedVariables false
set_option linter.unusedSimpArgs false
namespace Jvm.RoadKit
open Sem ClassFile Op Lib Jvm.Stand Jvm.Free Jvm.LawKit
section Own
variable {p : Program} {l : Launch} {e : Env} {R : Room} {s : State} {m : MethodId} {args : Array Value} {below : List Frame} {meth : Method} {c : Code} {T : State} {locs : List Loc} {cells slots : Nat} {Z : State} {a0 : Array Value} {h : Heap}
/-- the run goes on from the frame g over T to an end that P says -/
def own_Go (p : Program) (e : Env) (below : List Frame) (P : Outcome → State → Prop) (T : State) (g : JFrame) : Prop :=
  ∃ s₂ o, Steps p.tables e below (T.setTop g) s₂ ∧ s₂.status = .running ∧ Ended s₂ below o ∧ P o s₂
theorem own_via {P : Outcome → State → Prop} {T' : State} {g g' : JFrame} (k : ∀ target, Steps p.tables e below (T'.setTop g') target → Steps p.tables e below (T.setTop g) target) (q : own_Go p e below P T' g') : own_Go p e below P T g := by
  obtain ⟨s2, o, h1, h2⟩ := q
  exact ⟨s2, o, k _ h1, h2⟩
theorem own_start {P : Outcome → State → Prop} {g g' : JFrame} (q : g = g') (k : own_Go p e below P T g') : own_Go p e below P T g := q ▸ k
/-- what a body owes at its end -/
abbrev own_End (s : State) (Q : Option Value → Heap → List Loc → Prop) (k n : Nat) : Outcome → State → Prop := fun o U' => ∃ v L, o = .returned v ∧ Q v U'.heap L ∧ FrameEnd s o U' L k n
theorem own_ret {Q : Option Value → Heap → List Loc → Prop} {k n : Nat} {pc : Nat} {Ls : Array Slot} {w : Value} {t : FieldType} {i : Instr} {rest : List Value} (X : Stand p l e R s m args below meth c T locs cells slots) (hx : p.tables.exec = Jvm.exec) (hret : meth.sig.returnType = some t) (hlk : meth.locks = false) (hn : narrow t w = w)
    (hi : (i = .ireturn ∧ (t = .int ∨ t = .boolean ∨ t = .byte ∨ t = .char ∨ t = .short) ∧ ∃ z, w = .int z) ∨ (i = .lreturn ∧ t = .long ∧ ∃ z, w = .long z) ∨ (i = .dreturn ∧ t = .double ∧ ∃ z, w = .double z) ∨ (i = .freturn ∧ t = .float ∧ ∃ z, w = .float z) ∨ (i = .areturn ∧ t.isReference = true ∧ w.isRef = true))
    (hd : decode c.code pc = .ok (i, 1)) (hk : cells ≤ k) (hs : slots ≤ n) (hQ : Q (some w) T.heap locs) : own_Go p e below (own_End s Q k n) T (mkF m pc Ls (w :: rest)) := by
  obtain ⟨fs, hr, hrun, hended, hW, hsame⟩ := X.leave (v := some w) (fun q => by rw [hret] at q; cases q) hlk
  exact ⟨_, _, retOut X hx hret hn hi hd hr, hrun, hended, _, _, rfl, hQ, ⟨_, rfl⟩, hW, hsame.mono hk hs⟩
theorem own_retV {Q : Option Value → Heap → List Loc → Prop} {k n : Nat} {pc : Nat} {Ls : Array Slot} (X : Stand p l e R s m args below meth c T locs cells slots) (hx : p.tables.exec = Jvm.exec) (hret : meth.sig.returnType = none) (hlk : meth.locks = false)
    (hd : decode c.code pc = .ok (.return_, 1)) (hk : cells ≤ k) (hs : slots ≤ n) (hQ : Q none T.heap locs) : own_Go p e below (own_End s Q k n) T (mkF m pc Ls []) := by
  obtain ⟨fs, hr, hrun, hended, hW, hsame⟩ := X.leave (v := none) (fun _ => rfl) hlk
  exact ⟨_, _, X.returnOut hx hret hd hr, hrun, hended, _, _, rfl, hQ, ⟨_, rfl⟩, hW, hsame.mono hk hs⟩
/-- a callee that leaves the heap as it was -/
def own_Q (r : Option Value) (h0 : Heap) (v : Option Value) (h : Heap) (L : List Loc) : Prop := v = r ∧ L = [] ∧ h = h0
def own_F (r : Option Value) (n0 : Nat) (v : Option Value) (h : Heap) (L : List Loc) : Prop := v = r ∧ Fr n0 L
theorem own_fin {r v : Option Value} {n0 : Nat} {h : Heap} {L : List Loc} (q : own_F r n0 v h L) : v = r ∧ Fr n0 L := q
abbrev own_Met (l : Launch) (Z : State) (y : MethodName) (ws : List Cond) (rm : Room) (as' : Array Value) (h0 : Heap) (Q : Option Value → Heap → List Loc → Prop) : Prop :=
  MetFree l y (head1 ws rm) (fun a U => a = as' ∧ Z.Warmed39 U.vm ∧ U.heap = h0) (fun _ _ _ _ _ => True) (fun _ U o U' => ∃ v L, o = .returned v ∧ Q v U'.heap L ∧ FrameEnd U o U' L rm.cells rm.slots)
theorem own_callV {own C : String} {index : Nat} {y z : MethodName} {bytes : ByteArray} {maxL : Nat} {ret : Option FieldType} {rm : Room} {as' : Array Value} {r : Option Value} {W : Nat} {b : Addr}
    (X : Stand p l e R s m args below meth c T locs cells slots) (hx : p.tables.exec = Jvm.exec) (hZ : Z.Warmed39 s.vm) (hown : s.vm.findClass own = some m.cls)
    (wl : (Cond.methodLink own index y).before a0 Z = true) (wd : (Cond.declares y).before a0 Z = true) (nf : NotFace s y) (ws : (Cond.selects C y z).before a0 Z = true) (wi : (Cond.instanceMethod z).before a0 Z = true) (hy : y.cls ≠ "java/lang/invoke/MethodHandle" ∧ y.cls ≠ "java/lang/invoke/VarHandle")
    (wc : (Cond.code z bytes maxL ret).before a0 Z = true) (wz : (Cond.initialized z.cls).before a0 Z = true) (hM : own_Met l Z z [Cond.code z bytes maxL ret] rm as' h (own_Q r h)) (eT : T.heap = h) (E : Exa Z h b C)
    (hf : rm.frames + 1 ≤ R.frames) (hl : W + (maxL + 11) + rm.locals ≤ R.locals) (hc : cells + rm.cells ≤ R.cells) (hs : slots + rm.slots ≤ R.slots)
    {g : JFrame} (hg : g.method = m) (hsize : g.locals.size = c.maxLocals) {argsL rest : List Value} (hlen : ∀ sig, parseMethodDescriptor y.desc = some sig → argsL.length = sig.parameters.length) (hstack : g.stack = argsL.reverse ++ .ref b :: rest)
    (hW : 2 * g.monitorRoom + (rest.map fun v => v.category).sum ≤ W) (hdg : decode c.code g.pc = .ok (.invokevirtual index, 3)) (hargs : (.ref b :: argsL).toArray = as') :
    ∃ T', Stand p l e R s m args below meth c T' locs (cells + rm.cells) (slots + rm.slots) ∧ T'.heap = h ∧ ∀ target, Steps p.tables e below (T'.setTop { g with pc := g.pc + 3, stack := r.toList ++ rest }) target → Steps p.tables e below (T.setTop g) target := by
  obtain ⟨cB, kB, q1, q2, q3⟩ := isOf hZ eT E
  obtain ⟨_, _, ⟨T', L', k', n'⟩, -, X', ⟨Lc, hQ, hl', hk', hn'⟩, st⟩ := X.virtualBack hx (y := y) (z := z) hown (mvT hZ wl) (mvT hZ wd) nf (mvT hZ ws) (mvT hZ wi) hy (backOf (W := W) hM hZ wc wz hf hl) q1 q3 hg hsize (Steps.refl _) hlen hstack hW hdg (fun _ _ => ⟨hargs, eT, hc, hs⟩)
  dsimp only [Pt.U, Pt.locs, Pt.cells, Pt.slots] at X' hl' hk' hn' st hQ
  subst hl' hk' hn'
  obtain ⟨rfl, rfl, e'⟩ := hQ
  rw [List.append_nil] at X'
  exact ⟨T', X', e', fun target k => st.trans k⟩
theorem own_callU {own C owner : String} {index : Nat} {y z : MethodName} {bytes : ByteArray} {maxL : Nat} {ret : Option FieldType} {rm : Room} {as' : Array Value} {r : Option Value} {W : Nat} {b : Addr}
    (X : Stand p l e R s m args below meth c T locs cells slots) (hx : p.tables.exec = Jvm.exec) (hZ : Z.Warmed39 s.vm) (hown : s.vm.findClass own = some m.cls)
    (wl : (Cond.methodLink own index y).before a0 Z = true) (wm : (Cond.sameMethod y.cls owner y.name y.desc).before a0 Z = true) (wd : (Cond.declares ⟨owner, y.name, y.desc⟩).before a0 Z = true) (ho : owner ≠ "java/lang/invoke/MethodHandle" ∧ owner ≠ "java/lang/invoke/VarHandle") (ws : (Cond.selects C y z).before a0 Z = true) (wi : (Cond.instanceMethod z).before a0 Z = true)
    (wc : (Cond.code z bytes maxL ret).before a0 Z = true) (wz : (Cond.initialized z.cls).before a0 Z = true) (hM : own_Met l Z z [Cond.code z bytes maxL ret] rm as' h (own_Q r h)) (eT : T.heap = h) (E : Exa Z h b C)
    (hf : rm.frames + 1 ≤ R.frames) (hl : W + (maxL + 11) + rm.locals ≤ R.locals) (hc : cells + rm.cells ≤ R.cells) (hs : slots + rm.slots ≤ R.slots)
    {g : JFrame} (hg : g.method = m) (hsize : g.locals.size = c.maxLocals) {argsL rest : List Value} (hlen : ∀ sig, parseMethodDescriptor y.desc = some sig → argsL.length = sig.parameters.length) (hstack : g.stack = argsL.reverse ++ .ref b :: rest)
    (hW : 2 * g.monitorRoom + (rest.map fun v => v.category).sum ≤ W) (hdg : decode c.code g.pc = .ok (.invokevirtual index, 3)) (hargs : (.ref b :: argsL).toArray = as') :
    ∃ T', Stand p l e R s m args below meth c T' locs (cells + rm.cells) (slots + rm.slots) ∧ T'.heap = h ∧ ∀ target, Steps p.tables e below (T'.setTop { g with pc := g.pc + 3, stack := r.toList ++ rest }) target → Steps p.tables e below (T.setTop g) target := by
  obtain ⟨cB, kB, q1, q2, q3⟩ := isOf hZ eT E
  obtain ⟨_, _, ⟨T', L', k', n'⟩, -, X', ⟨Lc, hQ, hl', hk', hn'⟩, st⟩ := X.virtualBackUp hx (x := y) (y := z) (owner := owner) hown (mvT hZ wl) (mvT hZ wm) (mvT hZ wd) ho (mvT hZ ws) (mvT hZ wi) (backOf (W := W) hM hZ wc wz hf hl) q1 q3 hg hsize (Steps.refl _) hlen hstack hW hdg (fun _ _ => ⟨hargs, eT, hc, hs⟩)
  dsimp only [Pt.U, Pt.locs, Pt.cells, Pt.slots] at X' hl' hk' hn' st hQ
  subst hl' hk' hn'
  obtain ⟨rfl, rfl, e'⟩ := hQ
  rw [List.append_nil] at X'
  exact ⟨T', X', e', fun target k => st.trans k⟩
theorem own_callS {own : String} {index : Nat} {y : MethodName} {bytes : ByteArray} {maxL : Nat} {ret : Option FieldType} {rm : Room} {as' : Array Value} {r : Option Value} {W : Nat}
    (X : Stand p l e R s m args below meth c T locs cells slots) (hx : p.tables.exec = Jvm.exec) (hZ : Z.Warmed39 s.vm) (hown : s.vm.findClass own = some m.cls)
    (wl : (Cond.methodLink own index y).before a0 Z = true) (wt : (Cond.static y).before a0 Z = true) (wz : (Cond.initialized y.cls).before a0 Z = true) (wc : (Cond.code y bytes maxL ret).before a0 Z = true) (hy : y.cls ≠ "java/lang/invoke/MethodHandle" ∧ y.cls ≠ "java/lang/invoke/VarHandle")
    (hM : own_Met l Z y [Cond.code y bytes maxL ret] rm as' h (own_Q r h)) (eT : T.heap = h)
    (hf : rm.frames + 1 ≤ R.frames) (hl : W + (maxL + 11) + rm.locals ≤ R.locals) (hc : cells + rm.cells ≤ R.cells) (hs : slots + rm.slots ≤ R.slots)
    {g : JFrame} (hg : g.method = m) (hsize : g.locals.size = c.maxLocals) {argsL rest : List Value} (hlen : ∀ sig, parseMethodDescriptor y.desc = some sig → argsL.length = sig.parameters.length) (hstack : g.stack = argsL.reverse ++ rest)
    (hW : 2 * g.monitorRoom + (rest.map fun v => v.category).sum ≤ W) (hdg : decode c.code g.pc = .ok (.invokestatic index, 3)) (hargs : argsL.toArray = as') :
    ∃ T', Stand p l e R s m args below meth c T' locs (cells + rm.cells) (slots + rm.slots) ∧ T'.heap = h ∧ ∀ target, Steps p.tables e below (T'.setTop { g with pc := g.pc + 3, stack := r.toList ++ rest }) target → Steps p.tables e below (T.setTop g) target := by
  obtain ⟨_, _, ⟨T', L', k', n'⟩, -, X', ⟨Lc, hQ, hl', hk', hn'⟩, st⟩ := Jvm.LawKit.callS X hx (y := y) hown (mvT hZ wl) (mvT hZ wt) (mvT hZ wz) (mvT hZ wc) hy (backOf (W := W) hM hZ wc wz hf hl) hg hsize hlen hstack hW hdg (fun _ _ => ⟨hargs, eT, hc, hs⟩)
  dsimp only [Pt.U, Pt.locs, Pt.cells, Pt.slots] at X' hl' hk' hn' st hQ
  subst hl' hk' hn'
  obtain ⟨rfl, rfl, e'⟩ := hQ
  rw [List.append_nil] at X'
  exact ⟨T', X', e', st⟩
theorem own_evI {t : Term} {k : Int32} (q : (Cond.eq t (.int k)).value args Z none Z [] = some true) : t.eval args Z none [] Z = some (.int k) := eqv_i rfl q
theorem own_evL {t : Term} {k : Int64} (q : (Cond.eq t (.long k)).value args Z none Z [] = some true) : t.eval args Z none [] Z = some (.long k) := eqv_l rfl q
theorem own_fld {t : Term} {k : Int32} {a : Addr} {C n d : String} (q : (Cond.eq (.field t C n d) (.int k)).value args Z none Z [] = some true) (ht : t.eval args Z none [] Z = some (.ref a)) : Fld Z Z.heap a C n d (.int k) := Fld.start ((fld_at ht).symm.trans (own_evI q))
theorem own_staK {h' : Heap} {C n d : String} {v : Value} (F : Sta Z h C n d v) (K : Keep h h' []) : Sta Z h' C n d v := by
  obtain ⟨cf, i, k, f, st, cell, h1, h2, h3, h4, h5, r⟩ := F
  exact ⟨cf, i, k, f, st, cell, h1, h2, h3, h4, K.2.1 _ _ h5 nin0, r⟩
theorem own_arrK {h' : Heap} {a : Addr} {cl : Cell} {ty : FieldType} (F : Arr Z h a cl ty) (K : Keep h h' []) : Arr Z h' a cl ty := ⟨K.2.1 _ _ F.1 nin0, F.2⟩
/-- a static call by a contract of any kind -/
theorem own_callSQ {own : String} {index : Nat} {y : MethodName} {bytes : ByteArray} {maxL : Nat} {ret : Option FieldType} {rm : Room} {as' : Array Value} {Q : Option Value → Heap → List Loc → Prop} {W : Nat}
    (X : Stand p l e R s m args below meth c T locs cells slots) (hx : p.tables.exec = Jvm.exec) (hZ : Z.Warmed39 s.vm) (hown : s.vm.findClass own = some m.cls)
    (wl : (Cond.methodLink own index y).before a0 Z = true) (wt : (Cond.static y).before a0 Z = true) (wz : (Cond.initialized y.cls).before a0 Z = true) (wc : (Cond.code y bytes maxL ret).before a0 Z = true) (hy : y.cls ≠ "java/lang/invoke/MethodHandle" ∧ y.cls ≠ "java/lang/invoke/VarHandle")
    (hM : own_Met l Z y [Cond.code y bytes maxL ret] rm as' h Q) (eT : T.heap = h)
    (hf : rm.frames + 1 ≤ R.frames) (hl : W + (maxL + 11) + rm.locals ≤ R.locals) (hc : cells + rm.cells ≤ R.cells) (hs : slots + rm.slots ≤ R.slots)
    {g : JFrame} (hg : g.method = m) (hsize : g.locals.size = c.maxLocals) {argsL rest : List Value} (hlen : ∀ sig, parseMethodDescriptor y.desc = some sig → argsL.length = sig.parameters.length) (hstack : g.stack = argsL.reverse ++ rest)
    (hW : 2 * g.monitorRoom + (rest.map fun v => v.category).sum ≤ W) (hdg : decode c.code g.pc = .ok (.invokestatic index, 3)) (hargs : argsL.toArray = as') :
    ∃ v T' Lc, Stand p l e R s m args below meth c T' (locs ++ Lc) (cells + rm.cells) (slots + rm.slots) ∧ Q v T'.heap Lc ∧ ∀ target, Steps p.tables e below (T'.setTop { g with pc := g.pc + 3, stack := v.toList ++ rest }) target → Steps p.tables e below (T.setTop g) target := by
  obtain ⟨v, _, ⟨T', L', k', n'⟩, -, X', ⟨Lc, hQ, hl', hk', hn'⟩, st⟩ := Jvm.LawKit.callS X hx (y := y) hown (mvT hZ wl) (mvT hZ wt) (mvT hZ wz) (mvT hZ wc) hy (backOf (W := W) hM hZ wc wz hf hl) hg hsize hlen hstack hW hdg (fun _ _ => ⟨hargs, eT, hc, hs⟩)
  dsimp only [Pt.U, Pt.locs, Pt.cells, Pt.slots] at X' hl' hk' hn' st hQ
  subst hl' hk' hn'
  exact ⟨v, T', Lc, X', hQ, st⟩
/-- a constructor's call by a contract of any kind -/
theorem own_callIQ {own : String} {index : Nat} {y : MethodName} {bytes : ByteArray} {maxL : Nat} {rm : Room} {as' : Array Value} {Q : Option Value → Heap → List Loc → Prop} {W : Nat} {b : Addr}
    (X : Stand p l e R s m args below meth c T locs cells slots) (hx : p.tables.exec = Jvm.exec) (hZ : Z.Warmed39 s.vm) (hy1 : y.name = "<init>") (hown : s.vm.findClass own = some m.cls)
    (wl : (Cond.methodLink own index y).before a0 Z = true) (wi : (Cond.instanceMethod y).before a0 Z = true) (wz : (Cond.initialized y.cls).before a0 Z = true) (wc : (Cond.code y bytes maxL none).before a0 Z = true) (hy : y.cls ≠ "java/lang/invoke/MethodHandle" ∧ y.cls ≠ "java/lang/invoke/VarHandle")
    (hM : own_Met l Z y [Cond.code y bytes maxL none] rm as' h Q) (eT : T.heap = h)
    (hf : rm.frames + 1 ≤ R.frames) (hl : W + (maxL + 11) + rm.locals ≤ R.locals) (hc : cells + rm.cells ≤ R.cells) (hs : slots + rm.slots ≤ R.slots)
    {g : JFrame} (hg : g.method = m) (hsize : g.locals.size = c.maxLocals) {argsL rest : List Value} (hlen : ∀ sig, parseMethodDescriptor y.desc = some sig → argsL.length = sig.parameters.length) (hstack : g.stack = argsL.reverse ++ .ref b :: rest)
    (hW : 2 * g.monitorRoom + (rest.map fun v => v.category).sum ≤ W) (hdg : decode c.code g.pc = .ok (.invokespecial index, 3)) (hargs : (.ref b :: argsL).toArray = as') :
    ∃ v T' Lc, Stand p l e R s m args below meth c T' (locs ++ Lc) (cells + rm.cells) (slots + rm.slots) ∧ Q v T'.heap Lc ∧ ∀ target, Steps p.tables e below (T'.setTop { g with pc := g.pc + 3, stack := v.toList ++ rest }) target → Steps p.tables e below (T.setTop g) target := by
  obtain ⟨v, _, ⟨T', L', k', n'⟩, -, X', ⟨Lc, hQ, hl', hk', hn'⟩, st⟩ := X.specialBack hx (y := y) hy1 hown (mvT hZ wl) (mvT hZ wi) (mvT hZ wc) hy (backOf (W := W) hM hZ wc wz hf hl) hg hsize (Steps.refl _) (a := b) hlen hstack hW hdg (fun _ _ => ⟨hargs, eT, hc, hs⟩)
  dsimp only [Pt.U, Pt.locs, Pt.cells, Pt.slots] at X' hl' hk' hn' st hQ
  subst hl' hk' hn'
  exact ⟨v, T', Lc, X', hQ, fun target k => st.trans k⟩
/-- the same where the callee leaves the heap as it is -/
theorem own_callI {own : String} {index : Nat} {y : MethodName} {bytes : ByteArray} {maxL : Nat} {rm : Room} {as' : Array Value} {W : Nat} {b : Addr}
    (X : Stand p l e R s m args below meth c T locs cells slots) (hx : p.tables.exec = Jvm.exec) (hZ : Z.Warmed39 s.vm) (hy1 : y.name = "<init>") (hown : s.vm.findClass own = some m.cls)
    (wl : (Cond.methodLink own index y).before a0 Z = true) (wi : (Cond.instanceMethod y).before a0 Z = true) (wz : (Cond.initialized y.cls).before a0 Z = true) (wc : (Cond.code y bytes maxL none).before a0 Z = true) (hy : y.cls ≠ "java/lang/invoke/MethodHandle" ∧ y.cls ≠ "java/lang/invoke/VarHandle")
    (hM : own_Met l Z y [Cond.code y bytes maxL none] rm as' h (own_Q none h)) (eT : T.heap = h)
    (hf : rm.frames + 1 ≤ R.frames) (hl : W + (maxL + 11) + rm.locals ≤ R.locals) (hc : cells + rm.cells ≤ R.cells) (hs : slots + rm.slots ≤ R.slots)
    {g : JFrame} (hg : g.method = m) (hsize : g.locals.size = c.maxLocals) {argsL rest : List Value} (hlen : ∀ sig, parseMethodDescriptor y.desc = some sig → argsL.length = sig.parameters.length) (hstack : g.stack = argsL.reverse ++ .ref b :: rest)
    (hW : 2 * g.monitorRoom + (rest.map fun v => v.category).sum ≤ W) (hdg : decode c.code g.pc = .ok (.invokespecial index, 3)) (hargs : (.ref b :: argsL).toArray = as') :
    ∃ T', Stand p l e R s m args below meth c T' locs (cells + rm.cells) (slots + rm.slots) ∧ T'.heap = h ∧ ∀ target, Steps p.tables e below (T'.setTop { g with pc := g.pc + 3, stack := rest }) target → Steps p.tables e below (T.setTop g) target := by
  obtain ⟨v, T', Lc, X', ⟨rfl, rfl, e'⟩, st⟩ := own_callIQ X hx hZ hy1 hown wl wi wz wc hy hM eT hf hl hc hs hg hsize hlen hstack hW hdg hargs
  rw [List.append_nil] at X'
  exact ⟨T', X', e', st⟩
/-- roads that join: the rest of the walk is told once, for every x -/
theorem own_join {α : Type} {P : Outcome → State → Prop} {g : α → JFrame} {g0 : JFrame} (X : Stand p l e R s m args below meth c T locs cells slots) (eT : T.heap = h)
    (body : ∀ (x : α) (T' : State), Stand p l e R s m args below meth c T' locs cells slots → T'.heap = h → own_Go p e below P T' (g x))
    (rest : (∀ (x : α) (T' : State), Stand p l e R s m args below meth c T' locs cells slots → T'.heap = h → own_Go p e below P T' (g x)) → own_Go p e below P T g0) : own_Go p e below P T g0 := rest body
/-- a class whose line of superclasses ends without K is none of K's, where K is a class that can be instantiated -/
theorem own_NSroot {O K : String} {n : Nat} (w : (Cond.noSuperclass O).before a0 Z = true) (wk : (Cond.instantiable K n).before a0 Z = true) (hn : O ≠ K) : NS Z O K := by
  obtain ⟨c, k, h1, h2, h3, -, -⟩ := Cond.noSuperclass_spec w
  obtain ⟨t, kt, g1, -⟩ := Cond.instantiable_spec wk
  have ne := ids_ne h1 g1 hn
  refine ⟨c, t, h1, g1, fun fuel => ?_⟩
  cases fuel with
  | zero => rfl
  | succ f => simp [Vm.isSubclassAux, ne, h2, h3]
theorem own_NSno {C S K : String} {n : Nat} (w : (Cond.superclass C S).before a0 Z = true) (wk : (Cond.instantiable K n).before a0 Z = true) (q : NS Z C K) (hn : C ≠ K) : ∃ c t, Z.vm.findClass C = some c ∧ Z.vm.findClass K = some t ∧ Z.vm.assignable c t = false := by
  obtain ⟨c, t, h0, g0, n3⟩ := q
  obtain ⟨p, k, kp, h1, h2, h3, h4, h5, -, h7⟩ := Cond.superclass_spec h0 w
  obtain ⟨t', kt, g1, g2, g5, g7, -⟩ := Cond.instantiable_spec wk
  cases g0.symm.trans g1
  have g8 : kt.isInterface = false := by simp at g7; exact g7.1
  have ne := ids_ne h0 g0 hn
  refine ⟨c, t, h0, g0, ?_⟩
  show Z.vm.assignableAux (255 + 1) c t = false
  simp [Vm.assignableAux, ne, h2, g2, h5, g5, g8, Vm.isSubclass, n3]
theorem own_len {t : Term} {a : Addr} {cl : Cell} {ty : FieldType} {z : Int32} (ev : t.eval args Z none [] Z = some (.ref a)) (A : Arr Z Z.heap a cl ty) (q : (Term.length t).eval args Z none [] Z = some (.int z)) : cl.slots.size < 2 ^ 31 ∧ cl.slots.size.toInt32 = z := by
  have ha : Z.arrayAt? a = some cl := A.fin (Vm.Alike.refl _)
  by_cases hl : cl.slots.size < 2 ^ 31
  · rw [len_f ev ha hl] at q
    exact ⟨hl, Value.int.inj (Option.some.inj q)⟩
  · exfalso
    simp [Term.eval, ev, ha, hl] at q
theorem own_size {n : Nat} {z : Int32} (q : n < 2 ^ 31) (e : n.toInt32 = z) : n = z.toNatClampNeg := by
  rw [← e]
  simp only [Int32.toNatClampNeg, len_toInt q]
  rfl
end Own
end Jvm.RoadKit
namespace Jvm.Pilot.@@N@@
open Jvm Jvm.ClassFile Sem Op Lib Jvm.Free Jvm.Stand Jvm.LawKit Jvm.RoadKit Bundle Jvm.Pilot.@@N@@.Jvm.D
theorem pn_0 : plainName "java/lang/Enum" = true := by first | (simp [plainName, overriddenIn]; done) | decide +kernel
theorem d_jdk_37_method_2_code_0 : decode jdk_37_method_2_code 0 = .ok (.aload_n 0, 1) := by decide +kernel
theorem d_jdk_37_method_2_code_1 : decode jdk_37_method_2_code 1 = .ok (.getfield 7, 3) := by decide +kernel
theorem d_jdk_37_method_2_code_4 : decode jdk_37_method_2_code 4 = .ok (.ireturn, 1) := by decide +kernel
set_option maxRecDepth 65536 in
set_option maxHeartbeats 40000000 in
theorem own_o (l : Launch) (Z : State) (a0 : Array Value) (hw : ∀ d ∈ tables_1, d.before a0 Z = true) (b : Addr) (n : Int32) (h0 : Heap) (F : Fld Z h0 b "java/lang/Enum" "ordinal" "I" (.int n)) :
    own_Met l Z (⟨"java/lang/Enum", "ordinal", "()I"⟩ : MethodName) [Jvm.Cond.code (⟨"java/lang/Enum", "ordinal", "()I"⟩ : MethodName) jdk_37_method_2_code 1 (some .int)] ({ frames := 0, cells := 0, slots := 0, locals := 0 } : Room) #[(.ref b)] h0 (own_Q (some (.int n)) h0) := by
  refine MetFree.of_bodySF (plainFor_of_name pn_0) hisR ?_
  intro p e s m args below meth c s₁ Bd hml0 hP hK
  obtain ⟨rfl, hZ, hh⟩ := hP
  have hx := Bd.exec
  have hby := Bd.bytes
  have hml : c.maxLocals = 1 := hml0
  have hown : s.vm.findClass "java/lang/Enum" = some m.cls := findClass_of_methodNamed Bd.named
  have hnm := (name_of_methodNamed Bd.named Bd.method).1
  have hlk : meth.locks = false := BodyLoose.notSynchronized Bd
  have X0 : Stand p l e ({ frames := 0, cells := 0, slots := 0, locals := 0 } : Room) s m #[(.ref b)] below meth c s₁ [] 0 0 := Stand.of_body Bd
  have e0 : s₁.heap = h0 := by rw [← hh, Bd.state]; rfl
  show own_Go p e below (own_End s (own_Q (some (.int n)) h0) 0 0) s₁ (entryFrame m #[(.ref b)] 1)
  refine own_start (g' := mkF m 0 #[.val (.ref b)] []) (by first | rfl | (simp [entryFrame, mkF, argsToLocals, Value.category, maxLocals]; done)) ?_
  refine own_via (T' := s₁) (g' := (mkF m 1 #[.val (.ref b)] [(.ref b)])) (fun t k => XS.aloadN X0.here hx rfl (hb hby d_jdk_37_method_2_code_0) rfl rfl k) ?_
  obtain ⟨T1, X1, e1, st1⟩ := getF X0 hx hZ hown (host := "") (Or.inl (hw _ (List.mem_of_getElem? (i := 45) rfl))) Via.refl e0 F (g := (mkF m 1 #[.val (.ref b)] [(.ref b)])) rfl rfl (hb hby d_jdk_37_method_2_code_1)
  refine own_via (T' := T1) (g' := (mkF m 4 #[.val (.ref b)] [(.int n)])) st1 ?_
  exact own_ret (t := .int) X1 hx Bd.returns hlk rfl (Or.inl ⟨rfl, by simp, _, rfl⟩) (hb hby d_jdk_37_method_2_code_4) (by decide) (by decide) ⟨rfl, rfl, e1⟩
def own_ord (n : Int32) : Int32 := if n ≤ 6 ∧ n ≠ 1 then 1 else 0
theorem pn_1 : plainName "com/example/lictor/lictor/engine/DataType" = true := by first | (simp [plainName, overriddenIn]; done) | decide +kernel
theorem pd_3 : parseMethodDescriptor "()I" = some ⟨[], some .int⟩ := by decide +kernel
theorem d_prog_35_method_7_code_0 : decode prog_35_method_7_code 0 = .ok (.aload_n 0, 1) := by decide +kernel
theorem d_prog_35_method_7_code_1 : decode prog_35_method_7_code 1 = .ok (.invokevirtual 108, 3) := by decide +kernel
theorem d_prog_35_method_7_code_4 : decode prog_35_method_7_code 4 = .ok (.tableswitch 48 0 6 #[44, 48, 44, 44, 44, 44, 44], 44) := by decide +kernel
theorem d_prog_35_method_7_code_48 : decode prog_35_method_7_code 48 = .ok (.iconst 1, 1) := by decide +kernel
theorem d_prog_35_method_7_code_49 : decode prog_35_method_7_code 49 = .ok (.goto 4, 3) := by decide +kernel
theorem d_prog_35_method_7_code_52 : decode prog_35_method_7_code 52 = .ok (.iconst 0, 1) := by decide +kernel
theorem d_prog_35_method_7_code_53 : decode prog_35_method_7_code 53 = .ok (.ireturn, 1) := by decide +kernel
set_option maxRecDepth 65536 in
set_option maxHeartbeats 40000000 in
theorem own_io (l : Launch) (Z : State) (a0 : Array Value) (hw : ∀ d ∈ tables_1, d.before a0 Z = true) (b : Addr) (n r : Int32) (h0 : Heap) (E : Exa Z h0 b "com/example/lictor/lictor/engine/DataType") (F : Fld Z h0 b "java/lang/Enum" "ordinal" "I" (.int n)) (hn : n = 0 ∨ n = 1 ∨ n = 2 ∨ n = 3 ∨ n = 4 ∨ n = 5 ∨ n = 6 ∨ n = 7 ∨ n = 8 ∨ n = 9 ∨ n = 10 ∨ n = 11 ∨ n = 12 ∨ n = 13) (hr : r = own_ord n) :
    own_Met l Z (⟨"com/example/lictor/lictor/engine/DataType", "isOrdered", "()Z"⟩ : MethodName) [Jvm.Cond.code (⟨"com/example/lictor/lictor/engine/DataType", "isOrdered", "()Z"⟩ : MethodName) prog_35_method_7_code 1 (some .boolean)] ({ frames := 1, cells := 0, slots := 0, locals := 12 } : Room) #[(.ref b)] h0 (own_Q (some (.int r)) h0) := by
  refine MetFree.of_bodySF (plainFor_of_name pn_1) hisR ?_
  intro p e s m args below meth c s₁ Bd hml0 hP hK
  obtain ⟨rfl, hZ, hh⟩ := hP
  have hx := Bd.exec
  have hby := Bd.bytes
  have hml : c.maxLocals = 1 := hml0
  have hown : s.vm.findClass "com/example/lictor/lictor/engine/DataType" = some m.cls := findClass_of_methodNamed Bd.named
  have hnm := (name_of_methodNamed Bd.named Bd.method).1
  have hlk : meth.locks = false := BodyLoose.notSynchronized Bd
  have X0 : Stand p l e ({ frames := 1, cells := 0, slots := 0, locals := 12 } : Room) s m #[(.ref b)] below meth c s₁ [] 0 0 := Stand.of_body Bd
  have e0 : s₁.heap = h0 := by rw [← hh, Bd.state]; rfl
  show own_Go p e below (own_End s (own_Q (some (.int r)) h0) 0 0) s₁ (entryFrame m #[(.ref b)] 1)
  refine own_start (g' := mkF m 0 #[.val (.ref b)] []) (by first | rfl | (simp [entryFrame, mkF, argsToLocals, Value.category, maxLocals]; done)) ?_
  refine own_via (T' := s₁) (g' := (mkF m 1 #[.val (.ref b)] [(.ref b)])) (fun t k => XS.aloadN X0.here hx rfl (hb hby d_prog_35_method_7_code_0) rfl rfl k) ?_
  obtain ⟨T1, X1, e1, st1⟩ := own_callU (W := 0) (r := (some (.int n))) (y := (⟨"com/example/lictor/lictor/engine/DataType", "ordinal", "()I"⟩ : MethodName)) (z := (⟨"java/lang/Enum", "ordinal", "()I"⟩ : MethodName)) (owner := "java/lang/Enum") X0 hx hZ hown (hw _ (List.mem_of_getElem? (i := 38) rfl)) (hw _ (List.mem_of_getElem? (i := 39) rfl)) (hw _ (List.mem_of_getElem? (i := 40) rfl)) (by decide) (hw _ (List.mem_of_getElem? (i := 42) rfl)) (hw _ (List.mem_of_getElem? (i := 41) rfl)) (hw _ (List.mem_of_getElem? (i := 44) rfl)) (hw _ (List.mem_of_getElem? (i := 43) rfl)) (own_o l Z a0 hw b n h0 F) e0 E (by decide) (by decide) (by decide) (by decide) (g := (mkF m 1 #[.val (.ref b)] [(.ref b)])) rfl (by rw [hml]; rfl) (argsL := []) (rest := []) (lenOf pd_3 rfl) rfl (by show 2 * 0 + _ ≤ _; exact Nat.le_of_eq rfl) (hb hby d_prog_35_method_7_code_1) rfl
  refine own_via (T' := T1) (g' := (mkF m 4 #[.val (.ref b)] [(.int n)])) st1 ?_
  rcases hn with rfl | rfl | rfl | rfl | rfl | rfl | rfl | rfl | rfl | rfl | rfl | rfl | rfl | rfl
  · refine own_via (T' := T1) (g' := (mkF m 48 #[.val (.ref b)] [])) (fun t k => XS.tswIn X1.here hx rfl (pc0 := 4) (pc' := 48) rfl (hb hby d_prog_35_method_7_code_4) rfl (by decide) (o := 44) (by decide) (by decide) (by decide) k) ?_
    refine own_via (T' := T1) (g' := (mkF m 49 #[.val (.ref b)] [(.int (1 : Int32))])) (fun t k => XS.iconst X1.here hx rfl (hb hby d_prog_35_method_7_code_48) k) ?_
    refine own_via (T' := T1) (g' := (mkF m 53 #[.val (.ref b)] [(.int (1 : Int32))])) (fun t k => XS.goto X1.here hx rfl (pc0 := 49) (pc' := 53) rfl (hb hby d_prog_35_method_7_code_49) (by decide) (by decide) k) ?_
    exact own_ret (t := .boolean) X1 hx Bd.returns hlk rfl (Or.inl ⟨rfl, by simp, _, rfl⟩) (hb hby d_prog_35_method_7_code_53) (by decide) (by decide) ⟨congrArg (fun z => some (Value.int z)) (show (1 : Int32) = r from by rw [hr]; decide), rfl, e1⟩
  · refine own_via (T' := T1) (g' := (mkF m 52 #[.val (.ref b)] [])) (fun t k => XS.tswIn X1.here hx rfl (pc0 := 4) (pc' := 52) rfl (hb hby d_prog_35_method_7_code_4) rfl (by decide) (o := 48) (by decide) (by decide) (by decide) k) ?_
    refine own_via (T' := T1) (g' := (mkF m 53 #[.val (.ref b)] [(.int (0 : Int32))])) (fun t k => XS.iconst X1.here hx rfl (hb hby d_prog_35_method_7_code_52) k) ?_
    exact own_ret (t := .boolean) X1 hx Bd.returns hlk rfl (Or.inl ⟨rfl, by simp, _, rfl⟩) (hb hby d_prog_35_method_7_code_53) (by decide) (by decide) ⟨congrArg (fun z => some (Value.int z)) (show (0 : Int32) = r from by rw [hr]; decide), rfl, e1⟩
  · refine own_via (T' := T1) (g' := (mkF m 48 #[.val (.ref b)] [])) (fun t k => XS.tswIn X1.here hx rfl (pc0 := 4) (pc' := 48) rfl (hb hby d_prog_35_method_7_code_4) rfl (by decide) (o := 44) (by decide) (by decide) (by decide) k) ?_
    refine own_via (T' := T1) (g' := (mkF m 49 #[.val (.ref b)] [(.int (1 : Int32))])) (fun t k => XS.iconst X1.here hx rfl (hb hby d_prog_35_method_7_code_48) k) ?_
    refine own_via (T' := T1) (g' := (mkF m 53 #[.val (.ref b)] [(.int (1 : Int32))])) (fun t k => XS.goto X1.here hx rfl (pc0 := 49) (pc' := 53) rfl (hb hby d_prog_35_method_7_code_49) (by decide) (by decide) k) ?_
    exact own_ret (t := .boolean) X1 hx Bd.returns hlk rfl (Or.inl ⟨rfl, by simp, _, rfl⟩) (hb hby d_prog_35_method_7_code_53) (by decide) (by decide) ⟨congrArg (fun z => some (Value.int z)) (show (1 : Int32) = r from by rw [hr]; decide), rfl, e1⟩
  · refine own_via (T' := T1) (g' := (mkF m 48 #[.val (.ref b)] [])) (fun t k => XS.tswIn X1.here hx rfl (pc0 := 4) (pc' := 48) rfl (hb hby d_prog_35_method_7_code_4) rfl (by decide) (o := 44) (by decide) (by decide) (by decide) k) ?_
    refine own_via (T' := T1) (g' := (mkF m 49 #[.val (.ref b)] [(.int (1 : Int32))])) (fun t k => XS.iconst X1.here hx rfl (hb hby d_prog_35_method_7_code_48) k) ?_
    refine own_via (T' := T1) (g' := (mkF m 53 #[.val (.ref b)] [(.int (1 : Int32))])) (fun t k => XS.goto X1.here hx rfl (pc0 := 49) (pc' := 53) rfl (hb hby d_prog_35_method_7_code_49) (by decide) (by decide) k) ?_
    exact own_ret (t := .boolean) X1 hx Bd.returns hlk rfl (Or.inl ⟨rfl, by simp, _, rfl⟩) (hb hby d_prog_35_method_7_code_53) (by decide) (by decide) ⟨congrArg (fun z => some (Value.int z)) (show (1 : Int32) = r from by rw [hr]; decide), rfl, e1⟩
  · refine own_via (T' := T1) (g' := (mkF m 48 #[.val (.ref b)] [])) (fun t k => XS.tswIn X1.here hx rfl (pc0 := 4) (pc' := 48) rfl (hb hby d_prog_35_method_7_code_4) rfl (by decide) (o := 44) (by decide) (by decide) (by decide) k) ?_
    refine own_via (T' := T1) (g' := (mkF m 49 #[.val (.ref b)] [(.int (1 : Int32))])) (fun t k => XS.iconst X1.here hx rfl (hb hby d_prog_35_method_7_code_48) k) ?_
    refine own_via (T' := T1) (g' := (mkF m 53 #[.val (.ref b)] [(.int (1 : Int32))])) (fun t k => XS.goto X1.here hx rfl (pc0 := 49) (pc' := 53) rfl (hb hby d_prog_35_method_7_code_49) (by decide) (by decide) k) ?_
    exact own_ret (t := .boolean) X1 hx Bd.returns hlk rfl (Or.inl ⟨rfl, by simp, _, rfl⟩) (hb hby d_prog_35_method_7_code_53) (by decide) (by decide) ⟨congrArg (fun z => some (Value.int z)) (show (1 : Int32) = r from by rw [hr]; decide), rfl, e1⟩
  · refine own_via (T' := T1) (g' := (mkF m 48 #[.val (.ref b)] [])) (fun t k => XS.tswIn X1.here hx rfl (pc0 := 4) (pc' := 48) rfl (hb hby d_prog_35_method_7_code_4) rfl (by decide) (o := 44) (by decide) (by decide) (by decide) k) ?_
    refine own_via (T' := T1) (g' := (mkF m 49 #[.val (.ref b)] [(.int (1 : Int32))])) (fun t k => XS.iconst X1.here hx rfl (hb hby d_prog_35_method_7_code_48) k) ?_
    refine own_via (T' := T1) (g' := (mkF m 53 #[.val (.ref b)] [(.int (1 : Int32))])) (fun t k => XS.goto X1.here hx rfl (pc0 := 49) (pc' := 53) rfl (hb hby d_prog_35_method_7_code_49) (by decide) (by decide) k) ?_
    exact own_ret (t := .boolean) X1 hx Bd.returns hlk rfl (Or.inl ⟨rfl, by simp, _, rfl⟩) (hb hby d_prog_35_method_7_code_53) (by decide) (by decide) ⟨congrArg (fun z => some (Value.int z)) (show (1 : Int32) = r from by rw [hr]; decide), rfl, e1⟩
  · refine own_via (T' := T1) (g' := (mkF m 48 #[.val (.ref b)] [])) (fun t k => XS.tswIn X1.here hx rfl (pc0 := 4) (pc' := 48) rfl (hb hby d_prog_35_method_7_code_4) rfl (by decide) (o := 44) (by decide) (by decide) (by decide) k) ?_
    refine own_via (T' := T1) (g' := (mkF m 49 #[.val (.ref b)] [(.int (1 : Int32))])) (fun t k => XS.iconst X1.here hx rfl (hb hby d_prog_35_method_7_code_48) k) ?_
    refine own_via (T' := T1) (g' := (mkF m 53 #[.val (.ref b)] [(.int (1 : Int32))])) (fun t k => XS.goto X1.here hx rfl (pc0 := 49) (pc' := 53) rfl (hb hby d_prog_35_method_7_code_49) (by decide) (by decide) k) ?_
    exact own_ret (t := .boolean) X1 hx Bd.returns hlk rfl (Or.inl ⟨rfl, by simp, _, rfl⟩) (hb hby d_prog_35_method_7_code_53) (by decide) (by decide) ⟨congrArg (fun z => some (Value.int z)) (show (1 : Int32) = r from by rw [hr]; decide), rfl, e1⟩
  · refine own_via (T' := T1) (g' := (mkF m 52 #[.val (.ref b)] [])) (fun t k => XS.tswOut X1.here hx rfl (pc0 := 4) (pc' := 52) rfl (hb hby d_prog_35_method_7_code_4) rfl (by decide) (by decide) (by decide) k) ?_
    refine own_via (T' := T1) (g' := (mkF m 53 #[.val (.ref b)] [(.int (0 : Int32))])) (fun t k => XS.iconst X1.here hx rfl (hb hby d_prog_35_method_7_code_52) k) ?_
    exact own_ret (t := .boolean) X1 hx Bd.returns hlk rfl (Or.inl ⟨rfl, by simp, _, rfl⟩) (hb hby d_prog_35_method_7_code_53) (by decide) (by decide) ⟨congrArg (fun z => some (Value.int z)) (show (0 : Int32) = r from by rw [hr]; decide), rfl, e1⟩
  · refine own_via (T' := T1) (g' := (mkF m 52 #[.val (.ref b)] [])) (fun t k => XS.tswOut X1.here hx rfl (pc0 := 4) (pc' := 52) rfl (hb hby d_prog_35_method_7_code_4) rfl (by decide) (by decide) (by decide) k) ?_
    refine own_via (T' := T1) (g' := (mkF m 53 #[.val (.ref b)] [(.int (0 : Int32))])) (fun t k => XS.iconst X1.here hx rfl (hb hby d_prog_35_method_7_code_52) k) ?_
    exact own_ret (t := .boolean) X1 hx Bd.returns hlk rfl (Or.inl ⟨rfl, by simp, _, rfl⟩) (hb hby d_prog_35_method_7_code_53) (by decide) (by decide) ⟨congrArg (fun z => some (Value.int z)) (show (0 : Int32) = r from by rw [hr]; decide), rfl, e1⟩
  · refine own_via (T' := T1) (g' := (mkF m 52 #[.val (.ref b)] [])) (fun t k => XS.tswOut X1.here hx rfl (pc0 := 4) (pc' := 52) rfl (hb hby d_prog_35_method_7_code_4) rfl (by decide) (by decide) (by decide) k) ?_
    refine own_via (T' := T1) (g' := (mkF m 53 #[.val (.ref b)] [(.int (0 : Int32))])) (fun t k => XS.iconst X1.here hx rfl (hb hby d_prog_35_method_7_code_52) k) ?_
    exact own_ret (t := .boolean) X1 hx Bd.returns hlk rfl (Or.inl ⟨rfl, by simp, _, rfl⟩) (hb hby d_prog_35_method_7_code_53) (by decide) (by decide) ⟨congrArg (fun z => some (Value.int z)) (show (0 : Int32) = r from by rw [hr]; decide), rfl, e1⟩
  · refine own_via (T' := T1) (g' := (mkF m 52 #[.val (.ref b)] [])) (fun t k => XS.tswOut X1.here hx rfl (pc0 := 4) (pc' := 52) rfl (hb hby d_prog_35_method_7_code_4) rfl (by decide) (by decide) (by decide) k) ?_
    refine own_via (T' := T1) (g' := (mkF m 53 #[.val (.ref b)] [(.int (0 : Int32))])) (fun t k => XS.iconst X1.here hx rfl (hb hby d_prog_35_method_7_code_52) k) ?_
    exact own_ret (t := .boolean) X1 hx Bd.returns hlk rfl (Or.inl ⟨rfl, by simp, _, rfl⟩) (hb hby d_prog_35_method_7_code_53) (by decide) (by decide) ⟨congrArg (fun z => some (Value.int z)) (show (0 : Int32) = r from by rw [hr]; decide), rfl, e1⟩
  · refine own_via (T' := T1) (g' := (mkF m 52 #[.val (.ref b)] [])) (fun t k => XS.tswOut X1.here hx rfl (pc0 := 4) (pc' := 52) rfl (hb hby d_prog_35_method_7_code_4) rfl (by decide) (by decide) (by decide) k) ?_
    refine own_via (T' := T1) (g' := (mkF m 53 #[.val (.ref b)] [(.int (0 : Int32))])) (fun t k => XS.iconst X1.here hx rfl (hb hby d_prog_35_method_7_code_52) k) ?_
    exact own_ret (t := .boolean) X1 hx Bd.returns hlk rfl (Or.inl ⟨rfl, by simp, _, rfl⟩) (hb hby d_prog_35_method_7_code_53) (by decide) (by decide) ⟨congrArg (fun z => some (Value.int z)) (show (0 : Int32) = r from by rw [hr]; decide), rfl, e1⟩
  · refine own_via (T' := T1) (g' := (mkF m 52 #[.val (.ref b)] [])) (fun t k => XS.tswOut X1.here hx rfl (pc0 := 4) (pc' := 52) rfl (hb hby d_prog_35_method_7_code_4) rfl (by decide) (by decide) (by decide) k) ?_
    refine own_via (T' := T1) (g' := (mkF m 53 #[.val (.ref b)] [(.int (0 : Int32))])) (fun t k => XS.iconst X1.here hx rfl (hb hby d_prog_35_method_7_code_52) k) ?_
    exact own_ret (t := .boolean) X1 hx Bd.returns hlk rfl (Or.inl ⟨rfl, by simp, _, rfl⟩) (hb hby d_prog_35_method_7_code_53) (by decide) (by decide) ⟨congrArg (fun z => some (Value.int z)) (show (0 : Int32) = r from by rw [hr]; decide), rfl, e1⟩
  · refine own_via (T' := T1) (g' := (mkF m 52 #[.val (.ref b)] [])) (fun t k => XS.tswOut X1.here hx rfl (pc0 := 4) (pc' := 52) rfl (hb hby d_prog_35_method_7_code_4) rfl (by decide) (by decide) (by decide) k) ?_
    refine own_via (T' := T1) (g' := (mkF m 53 #[.val (.ref b)] [(.int (0 : Int32))])) (fun t k => XS.iconst X1.here hx rfl (hb hby d_prog_35_method_7_code_52) k) ?_
    exact own_ret (t := .boolean) X1 hx Bd.returns hlk rfl (Or.inl ⟨rfl, by simp, _, rfl⟩) (hb hby d_prog_35_method_7_code_53) (by decide) (by decide) ⟨congrArg (fun z => some (Value.int z)) (show (0 : Int32) = r from by rw [hr]; decide), rfl, e1⟩
theorem own_mod14 (x k : Int32) (hk : (x &&& (2147483647 : Int32)) % (14 : Int32) = k) : k = 0 ∨ k = 1 ∨ k = 2 ∨ k = 3 ∨ k = 4 ∨ k = 5 ∨ k = 6 ∨ k = 7 ∨ k = 8 ∨ k = 9 ∨ k = 10 ∨ k = 11 ∨ k = 12 ∨ k = 13 := by
  have h1 := c_mask x 2147483647 31 (by decide) (by decide)
  have h2 := (c_irem (x &&& 2147483647) 14 14 (by decide)).1 (by rw [h1]; omega)
  rw [hk] at h2
  have h3 : k.toInt = 0 ∨ k.toInt = 1 ∨ k.toInt = 2 ∨ k.toInt = 3 ∨ k.toInt = 4 ∨ k.toInt = 5 ∨ k.toInt = 6 ∨ k.toInt = 7 ∨ k.toInt = 8 ∨ k.toInt = 9 ∨ k.toInt = 10 ∨ k.toInt = 11 ∨ k.toInt = 12 ∨ k.toInt = 13 := by omega
  rcases h3 with h | h | h | h | h | h | h | h | h | h | h | h | h | h
  · exact Or.inl (Int32.toInt_inj.mp (by rw [h]; decide))
  · exact Or.inr (Or.inl (Int32.toInt_inj.mp (by rw [h]; decide)))
  · exact Or.inr (Or.inr (Or.inl (Int32.toInt_inj.mp (by rw [h]; decide))))
  · exact Or.inr (Or.inr (Or.inr (Or.inl (Int32.toInt_inj.mp (by rw [h]; decide)))))
  · exact Or.inr (Or.inr (Or.inr (Or.inr (Or.inl (Int32.toInt_inj.mp (by rw [h]; decide))))))
  · exact Or.inr (Or.inr (Or.inr (Or.inr (Or.inr (Or.inl (Int32.toInt_inj.mp (by rw [h]; decide)))))))
  · exact Or.inr (Or.inr (Or.inr (Or.inr (Or.inr (Or.inr (Or.inl (Int32.toInt_inj.mp (by rw [h]; decide))))))))
  · exact Or.inr (Or.inr (Or.inr (Or.inr (Or.inr (Or.inr (Or.inr (Or.inl (Int32.toInt_inj.mp (by rw [h]; decide)))))))))
  · exact Or.inr (Or.inr (Or.inr (Or.inr (Or.inr (Or.inr (Or.inr (Or.inr (Or.inl (Int32.toInt_inj.mp (by rw [h]; decide))))))))))
  · exact Or.inr (Or.inr (Or.inr (Or.inr (Or.inr (Or.inr (Or.inr (Or.inr (Or.inr (Or.inl (Int32.toInt_inj.mp (by rw [h]; decide)))))))))))
  · exact Or.inr (Or.inr (Or.inr (Or.inr (Or.inr (Or.inr (Or.inr (Or.inr (Or.inr (Or.inr (Or.inl (Int32.toInt_inj.mp (by rw [h]; decide))))))))))))
  · exact Or.inr (Or.inr (Or.inr (Or.inr (Or.inr (Or.inr (Or.inr (Or.inr (Or.inr (Or.inr (Or.inr (Or.inl (Int32.toInt_inj.mp (by rw [h]; decide)))))))))))))
  · exact Or.inr (Or.inr (Or.inr (Or.inr (Or.inr (Or.inr (Or.inr (Or.inr (Or.inr (Or.inr (Or.inr (Or.inr (Or.inl (Int32.toInt_inj.mp (by rw [h]; decide))))))))))))))
  · exact Or.inr (Or.inr (Or.inr (Or.inr (Or.inr (Or.inr (Or.inr (Or.inr (Or.inr (Or.inr (Or.inr (Or.inr (Or.inr (Int32.toInt_inj.mp (by rw [h]; decide))))))))))))))
theorem pn_2 : plainName "com/example/lictor/lictor/engine/DataTypeIsOrderedPinLaw" = true := by first | (simp [plainName, overriddenIn]; done) | decide +kernel
theorem pd_11 : parseMethodDescriptor "()Z" = some ⟨[], some .boolean⟩ := by decide +kernel
set_option maxRecDepth 65536 in
set_option maxHeartbeats 40000000 in
theorem own_c0 (l : Launch) (Z : State) (a0 : Array Value) (hw : ∀ d ∈ tables_1, d.before a0 Z = true) (p1 : Int32) (w_STRING w_BOOLEAN w_INTEGER w_DOUBLE w_DATE w_TIME w_DATE_TIME w_DAY_TIME_DURATION w_YEAR_MONTH_DURATION w_ANY_URI w_HEX_BINARY w_BASE64_BINARY w_X500_NAME w_RFC822_NAME : Addr) (h0 : Heap) (S_STRING : Sta Z h0 "com/example/lictor/lictor/engine/DataType" "STRING" "Lcom/example/lictor/lictor/engine/DataType;" (.ref w_STRING)) (E_STRING : Exa Z h0 w_STRING "com/example/lictor/lictor/engine/DataType") (O_STRING : Fld Z h0 w_STRING "java/lang/Enum" "ordinal" "I" (.int (0 : Int32))) (S_BOOLEAN : Sta Z h0 "com/example/lictor/lictor/engine/DataType" "BOOLEAN" "Lcom/example/lictor/lictor/engine/DataType;" (.ref w_BOOLEAN)) (E_BOOLEAN : Exa Z h0 w_BOOLEAN "com/example/lictor/lictor/engine/DataType") (O_BOOLEAN : Fld Z h0 w_BOOLEAN "java/lang/Enum" "ordinal" "I" (.int (1 : Int32))) (S_INTEGER : Sta Z h0 "com/example/lictor/lictor/engine/DataType" "INTEGER" "Lcom/example/lictor/lictor/engine/DataType;" (.ref w_INTEGER)) (E_INTEGER : Exa Z h0 w_INTEGER "com/example/lictor/lictor/engine/DataType") (O_INTEGER : Fld Z h0 w_INTEGER "java/lang/Enum" "ordinal" "I" (.int (2 : Int32))) (S_DOUBLE : Sta Z h0 "com/example/lictor/lictor/engine/DataType" "DOUBLE" "Lcom/example/lictor/lictor/engine/DataType;" (.ref w_DOUBLE)) (E_DOUBLE : Exa Z h0 w_DOUBLE "com/example/lictor/lictor/engine/DataType") (O_DOUBLE : Fld Z h0 w_DOUBLE "java/lang/Enum" "ordinal" "I" (.int (3 : Int32))) (S_DATE : Sta Z h0 "com/example/lictor/lictor/engine/DataType" "DATE" "Lcom/example/lictor/lictor/engine/DataType;" (.ref w_DATE)) (E_DATE : Exa Z h0 w_DATE "com/example/lictor/lictor/engine/DataType") (O_DATE : Fld Z h0 w_DATE "java/lang/Enum" "ordinal" "I" (.int (4 : Int32))) (S_TIME : Sta Z h0 "com/example/lictor/lictor/engine/DataType" "TIME" "Lcom/example/lictor/lictor/engine/DataType;" (.ref w_TIME)) (E_TIME : Exa Z h0 w_TIME "com/example/lictor/lictor/engine/DataType") (O_TIME : Fld Z h0 w_TIME "java/lang/Enum" "ordinal" "I" (.int (5 : Int32))) (S_DATE_TIME : Sta Z h0 "com/example/lictor/lictor/engine/DataType" "DATE_TIME" "Lcom/example/lictor/lictor/engine/DataType;" (.ref w_DATE_TIME)) (E_DATE_TIME : Exa Z h0 w_DATE_TIME "com/example/lictor/lictor/engine/DataType") (O_DATE_TIME : Fld Z h0 w_DATE_TIME "java/lang/Enum" "ordinal" "I" (.int (6 : Int32))) (S_DAY_TIME_DURATION : Sta Z h0 "com/example/lictor/lictor/engine/DataType" "DAY_TIME_DURATION" "Lcom/example/lictor/lictor/engine/DataType;" (.ref w_DAY_TIME_DURATION)) (E_DAY_TIME_DURATION : Exa Z h0 w_DAY_TIME_DURATION "com/example/lictor/lictor/engine/DataType") (O_DAY_TIME_DURATION : Fld Z h0 w_DAY_TIME_DURATION "java/lang/Enum" "ordinal" "I" (.int (7 : Int32))) (S_YEAR_MONTH_DURATION : Sta Z h0 "com/example/lictor/lictor/engine/DataType" "YEAR_MONTH_DURATION" "Lcom/example/lictor/lictor/engine/DataType;" (.ref w_YEAR_MONTH_DURATION)) (E_YEAR_MONTH_DURATION : Exa Z h0 w_YEAR_MONTH_DURATION "com/example/lictor/lictor/engine/DataType") (O_YEAR_MONTH_DURATION : Fld Z h0 w_YEAR_MONTH_DURATION "java/lang/Enum" "ordinal" "I" (.int (8 : Int32))) (S_ANY_URI : Sta Z h0 "com/example/lictor/lictor/engine/DataType" "ANY_URI" "Lcom/example/lictor/lictor/engine/DataType;" (.ref w_ANY_URI)) (E_ANY_URI : Exa Z h0 w_ANY_URI "com/example/lictor/lictor/engine/DataType") (O_ANY_URI : Fld Z h0 w_ANY_URI "java/lang/Enum" "ordinal" "I" (.int (9 : Int32))) (S_HEX_BINARY : Sta Z h0 "com/example/lictor/lictor/engine/DataType" "HEX_BINARY" "Lcom/example/lictor/lictor/engine/DataType;" (.ref w_HEX_BINARY)) (E_HEX_BINARY : Exa Z h0 w_HEX_BINARY "com/example/lictor/lictor/engine/DataType") (O_HEX_BINARY : Fld Z h0 w_HEX_BINARY "java/lang/Enum" "ordinal" "I" (.int (10 : Int32))) (S_BASE64_BINARY : Sta Z h0 "com/example/lictor/lictor/engine/DataType" "BASE64_BINARY" "Lcom/example/lictor/lictor/engine/DataType;" (.ref w_BASE64_BINARY)) (E_BASE64_BINARY : Exa Z h0 w_BASE64_BINARY "com/example/lictor/lictor/engine/DataType") (O_BASE64_BINARY : Fld Z h0 w_BASE64_BINARY "java/lang/Enum" "ordinal" "I" (.int (11 : Int32))) (S_X500_NAME : Sta Z h0 "com/example/lictor/lictor/engine/DataType" "X500_NAME" "Lcom/example/lictor/lictor/engine/DataType;" (.ref w_X500_NAME)) (E_X500_NAME : Exa Z h0 w_X500_NAME "com/example/lictor/lictor/engine/DataType") (O_X500_NAME : Fld Z h0 w_X500_NAME "java/lang/Enum" "ordinal" "I" (.int (12 : Int32))) (S_RFC822_NAME : Sta Z h0 "com/example/lictor/lictor/engine/DataType" "RFC822_NAME" "Lcom/example/lictor/lictor/engine/DataType;" (.ref w_RFC822_NAME)) (E_RFC822_NAME : Exa Z h0 w_RFC822_NAME "com/example/lictor/lictor/engine/DataType") (O_RFC822_NAME : Fld Z h0 w_RFC822_NAME "java/lang/Enum" "ordinal" "I" (.int (13 : Int32))) :
    own_Met l Z x (Jvm.Cond.code x code maxLocals ret :: tables_1) room_1 #[(.int p1)] h0 (own_F (some (.int 1)) h0.size) := by
  refine MetFree.of_bodySF (plainFor_of_name pn_2) hisR ?_
  intro p e s m args below meth c s₁ Bd hml0 hP hK
  obtain ⟨rfl, hZ, hh⟩ := hP
  have hx := Bd.exec
  have hby := Bd.bytes
  have hml : c.maxLocals = 4 := hml0
  have hown : s.vm.findClass "com/example/lictor/lictor/engine/DataTypeIsOrderedPinLaw" = some m.cls := findClass_of_methodNamed Bd.named
  have hnm := (name_of_methodNamed Bd.named Bd.method).1
  have hlk : meth.locks = false := BodyLoose.notSynchronized Bd
  have X0 : Stand p l e room_1 s m #[(.int p1)] below meth c s₁ [] 0 0 := Stand.of_body Bd
  have e0 : s₁.heap = h0 := by rw [← hh, Bd.state]; rfl
  show own_Go p e below (own_End s (own_F (some (.int 1)) h0.size) 16 128) s₁ (entryFrame m #[(.int p1)] maxLocals)
  refine own_start (g' := mkF m 0 #[.val (.int p1), .unset, .unset, .unset] []) (by first | rfl | (simp [entryFrame, mkF, argsToLocals, Value.category, maxLocals]; done)) ?_
  have K : Keep h0 h0 [] := Keep.refl _ _
  have N : Fr h0.size [] := Fr.nil _
  refine own_via (T' := s₁) (g' := (mkF m 2 #[.val (.int p1), .unset, .unset, .unset] [(.int (14 : Int32))])) (fun t k => XS.bipush X0.here hx rfl (hb hby at_0) k) ?_
  obtain ⟨T1, h1, k1, X1, e1, E1, A1, O1, st1⟩ := newR X0 hx hZ hown (hw _ (List.mem_of_getElem? (i := 0) rfl)) (hw _ (List.mem_of_getElem? (i := 1) rfl)) e0 (g := (mkF m 2 #[.val (.int p1), .unset, .unset, .unset] [(.int (14 : Int32))])) rfl (hb hby at_2) rfl (by decide) (cap := 14) (by decide) (by decide) (by decide) (by decide)
  obtain ⟨b1, g1⟩ : ∃ z, z = h0.size := ⟨_, rfl⟩
  rw [← g1] at A1 st1
  have g_b1 : h0.size ≤ b1 := by rw [g1]; exact K.1
  have sz_b1 := g_b1
  have K := K.ext E1
  have V_b1 : Arv Z h1 b1 k1 (.object "com/example/lictor/lictor/engine/DataType") (14 : Int32) [.null, .null, .null, .null, .null, .null, .null, .null, .null, .null, .null, .null, .null, .null] .null := (Arv.new A1 (by decide)).pad (pad_rep [] .null 14)
  refine own_via (T' := T1) (g' := (mkF m 5 #[.val (.int p1), .unset, .unset, .unset] [(.ref b1)])) st1 ?_
  refine own_via (T' := T1) (g' := (mkF m 6 #[.val (.int p1), .unset, .unset, .unset] [(.ref b1), (.ref b1)])) (fun t k => XS.dup X1.here hx rfl (hb hby at_5) rfl rfl k) ?_
  refine own_via (T' := T1) (g' := (mkF m 7 #[.val (.int p1), .unset, .unset, .unset] [(.int (0 : Int32)), (.ref b1), (.ref b1)])) (fun t k => XS.iconst X1.here hx rfl (hb hby at_6) k) ?_
  obtain ⟨T2, X2, e2, st2⟩ := getS2 X1 hx hZ hown (host := "") (Or.inl (hw _ (List.mem_of_getElem? (i := 2) rfl))) Via.refl e1 (own_staK S_STRING K) (g := (mkF m 7 #[.val (.int p1), .unset, .unset, .unset] [(.int (0 : Int32)), (.ref b1), (.ref b1)])) rfl (hb hby at_7)
  refine own_via (T' := T2) (g' := (mkF m 10 #[.val (.int p1), .unset, .unset, .unset] [(.ref w_STRING), (.int (0 : Int32)), (.ref b1), (.ref b1)])) st2 ?_
  obtain ⟨cl3, Ar3, q3, S3, M3, H3, G3⟩ := V_b1
  have hin3 : ¬ ((0 : Int32) < 0 ∨ cl3.slots.size ≤ ((0 : Int32)).toNatClampNeg) := inb_of S3 ⟨by decide, by decide⟩
  obtain ⟨T3, h3, X3, e3, W3, st3⟩ := stR X2 hx hZ e2 Ar3 (j := (0 : Int32)) hin3 rfl (Sto.ofV Ar3 q3 O1 (Ins.self (E_STRING.keep K))) (g := (mkF m 10 #[.val (.int p1), .unset, .unset, .unset] [(.ref w_STRING), (.int (0 : Int32)), (.ref b1), (.ref b1)])) rfl rfl (hb hby at_10)
  have K := K.wr W3 (Or.inr sz_b1)
  have N := Fr.snoc X3 N g_b1
  have V_b1 : Arv Z h3 b1 k1 (.object "com/example/lictor/lictor/engine/DataType") (14 : Int32) [(.ref w_STRING), .null, .null, .null, .null, .null, .null, .null, .null, .null, .null, .null, .null, .null] .null := Arv.set Ar3 q3 S3 M3 H3 G3 rfl W3 0 rfl (Nat.le_of_ble_eq_true rfl)
  refine own_via (T' := T3) (g' := (mkF m 11 #[.val (.int p1), .unset, .unset, .unset] [(.ref b1)])) st3 ?_
  refine own_via (T' := T3) (g' := (mkF m 12 #[.val (.int p1), .unset, .unset, .unset] [(.ref b1), (.ref b1)])) (fun t k => XS.dup X3.here hx rfl (hb hby at_11) rfl rfl k) ?_
  refine own_via (T' := T3) (g' := (mkF m 13 #[.val (.int p1), .unset, .unset, .unset] [(.int (1 : Int32)), (.ref b1), (.ref b1)])) (fun t k => XS.iconst X3.here hx rfl (hb hby at_12) k) ?_
  obtain ⟨T4, X4, e4, st4⟩ := getS2 X3 hx hZ hown (host := "") (Or.inl (hw _ (List.mem_of_getElem? (i := 6) rfl))) Via.refl e3 (own_staK S_BOOLEAN K) (g := (mkF m 13 #[.val (.int p1), .unset, .unset, .unset] [(.int (1 : Int32)), (.ref b1), (.ref b1)])) rfl (hb hby at_13)
  refine own_via (T' := T4) (g' := (mkF m 16 #[.val (.int p1), .unset, .unset, .unset] [(.ref w_BOOLEAN), (.int (1 : Int32)), (.ref b1), (.ref b1)])) st4 ?_
  obtain ⟨cl5, Ar5, q5, S5, M5, H5, G5⟩ := V_b1
  have hin5 : ¬ ((1 : Int32) < 0 ∨ cl5.slots.size ≤ ((1 : Int32)).toNatClampNeg) := inb_of S5 ⟨by decide, by decide⟩
  obtain ⟨T5, h5, X5, e5, W5, st5⟩ := stR X4 hx hZ e4 Ar5 (j := (1 : Int32)) hin5 rfl (Sto.ofV Ar5 q5 O1 (Ins.self (E_BOOLEAN.keep K))) (g := (mkF m 16 #[.val (.int p1), .unset, .unset, .unset] [(.ref w_BOOLEAN), (.int (1 : Int32)), (.ref b1), (.ref b1)])) rfl rfl (hb hby at_16)
  have K := K.wr W5 (Or.inr sz_b1)
  have N := Fr.snoc X5 N g_b1
  have V_b1 : Arv Z h5 b1 k1 (.object "com/example/lictor/lictor/engine/DataType") (14 : Int32) [(.ref w_STRING), (.ref w_BOOLEAN), .null, .null, .null, .null, .null, .null, .null, .null, .null, .null, .null, .null] .null := Arv.set Ar5 q5 S5 M5 H5 G5 rfl W5 1 rfl (Nat.le_of_ble_eq_true rfl)
  refine own_via (T' := T5) (g' := (mkF m 17 #[.val (.int p1), .unset, .unset, .unset] [(.ref b1)])) st5 ?_
  refine own_via (T' := T5) (g' := (mkF m 18 #[.val (.int p1), .unset, .unset, .unset] [(.ref b1), (.ref b1)])) (fun t k => XS.dup X5.here hx rfl (hb hby at_17) rfl rfl k) ?_
  refine own_via (T' := T5) (g' := (mkF m 19 #[.val (.int p1), .unset, .unset, .unset] [(.int (2 : Int32)), (.ref b1), (.ref b1)])) (fun t k => XS.iconst X5.here hx rfl (hb hby at_18) k) ?_
  obtain ⟨T6, X6, e6, st6⟩ := getS2 X5 hx hZ hown (host := "") (Or.inl (hw _ (List.mem_of_getElem? (i := 8) rfl))) Via.refl e5 (own_staK S_INTEGER K) (g := (mkF m 19 #[.val (.int p1), .unset, .unset, .unset] [(.int (2 : Int32)), (.ref b1), (.ref b1)])) rfl (hb hby at_19)
  refine own_via (T' := T6) (g' := (mkF m 22 #[.val (.int p1), .unset, .unset, .unset] [(.ref w_INTEGER), (.int (2 : Int32)), (.ref b1), (.ref b1)])) st6 ?_
  obtain ⟨cl7, Ar7, q7, S7, M7, H7, G7⟩ := V_b1
  have hin7 : ¬ ((2 : Int32) < 0 ∨ cl7.slots.size ≤ ((2 : Int32)).toNatClampNeg) := inb_of S7 ⟨by decide, by decide⟩
  obtain ⟨T7, h7, X7, e7, W7, st7⟩ := stR X6 hx hZ e6 Ar7 (j := (2 : Int32)) hin7 rfl (Sto.ofV Ar7 q7 O1 (Ins.self (E_INTEGER.keep K))) (g := (mkF m 22 #[.val (.int p1), .unset, .unset, .unset] [(.ref w_INTEGER), (.int (2 : Int32)), (.ref b1), (.ref b1)])) rfl rfl (hb hby at_22)
  have K := K.wr W7 (Or.inr sz_b1)
  have N := Fr.snoc X7 N g_b1
  have V_b1 : Arv Z h7 b1 k1 (.object "com/example/lictor/lictor/engine/DataType") (14 : Int32) [(.ref w_STRING), (.ref w_BOOLEAN), (.ref w_INTEGER), .null, .null, .null, .null, .null, .null, .null, .null, .null, .null, .null] .null := Arv.set Ar7 q7 S7 M7 H7 G7 rfl W7 2 rfl (Nat.le_of_ble_eq_true rfl)
  refine own_via (T' := T7) (g' := (mkF m 23 #[.val (.int p1), .unset, .unset, .unset] [(.ref b1)])) st7 ?_
  refine own_via (T' := T7) (g' := (mkF m 24 #[.val (.int p1), .unset, .unset, .unset] [(.ref b1), (.ref b1)])) (fun t k => XS.dup X7.here hx rfl (hb hby at_23) rfl rfl k) ?_
  refine own_via (T' := T7) (g' := (mkF m 25 #[.val (.int p1), .unset, .unset, .unset] [(.int (3 : Int32)), (.ref b1), (.ref b1)])) (fun t k => XS.iconst X7.here hx rfl (hb hby at_24) k) ?_
  obtain ⟨T8, X8, e8, st8⟩ := getS2 X7 hx hZ hown (host := "") (Or.inl (hw _ (List.mem_of_getElem? (i := 10) rfl))) Via.refl e7 (own_staK S_DOUBLE K) (g := (mkF m 25 #[.val (.int p1), .unset, .unset, .unset] [(.int (3 : Int32)), (.ref b1), (.ref b1)])) rfl (hb hby at_25)
  refine own_via (T' := T8) (g' := (mkF m 28 #[.val (.int p1), .unset, .unset, .unset] [(.ref w_DOUBLE), (.int (3 : Int32)), (.ref b1), (.ref b1)])) st8 ?_
  obtain ⟨cl9, Ar9, q9, S9, M9, H9, G9⟩ := V_b1
  have hin9 : ¬ ((3 : Int32) < 0 ∨ cl9.slots.size ≤ ((3 : Int32)).toNatClampNeg) := inb_of S9 ⟨by decide, by decide⟩
  obtain ⟨T9, h9, X9, e9, W9, st9⟩ := stR X8 hx hZ e8 Ar9 (j := (3 : Int32)) hin9 rfl (Sto.ofV Ar9 q9 O1 (Ins.self (E_DOUBLE.keep K))) (g := (mkF m 28 #[.val (.int p1), .unset, .unset, .unset] [(.ref w_DOUBLE), (.int (3 : Int32)), (.ref b1), (.ref b1)])) rfl rfl (hb hby at_28)
  have K := K.wr W9 (Or.inr sz_b1)
  have N := Fr.snoc X9 N g_b1
  have V_b1 : Arv Z h9 b1 k1 (.object "com/example/lictor/lictor/engine/DataType") (14 : Int32) [(.ref w_STRING), (.ref w_BOOLEAN), (.ref w_INTEGER), (.ref w_DOUBLE), .null, .null, .null, .null, .null, .null, .null, .null, .null, .null] .null := Arv.set Ar9 q9 S9 M9 H9 G9 rfl W9 3 rfl (Nat.le_of_ble_eq_true rfl)
  refine own_via (T' := T9) (g' := (mkF m 29 #[.val (.int p1), .unset, .unset, .unset] [(.ref b1)])) st9 ?_
  refine own_via (T' := T9) (g' := (mkF m 30 #[.val (.int p1), .unset, .unset, .unset] [(.ref b1), (.ref b1)])) (fun t k => XS.dup X9.here hx rfl (hb hby at_29) rfl rfl k) ?_
  refine own_via (T' := T9) (g' := (mkF m 31 #[.val (.int p1), .unset, .unset, .unset] [(.int (4 : Int32)), (.ref b1), (.ref b1)])) (fun t k => XS.iconst X9.here hx rfl (hb hby at_30) k) ?_
  obtain ⟨T10, X10, e10, st10⟩ := getS2 X9 hx hZ hown (host := "") (Or.inl (hw _ (List.mem_of_getElem? (i := 12) rfl))) Via.refl e9 (own_staK S_DATE K) (g := (mkF m 31 #[.val (.int p1), .unset, .unset, .unset] [(.int (4 : Int32)), (.ref b1), (.ref b1)])) rfl (hb hby at_31)
  refine own_via (T' := T10) (g' := (mkF m 34 #[.val (.int p1), .unset, .unset, .unset] [(.ref w_DATE), (.int (4 : Int32)), (.ref b1), (.ref b1)])) st10 ?_
  obtain ⟨cl11, Ar11, q11, S11, M11, H11, G11⟩ := V_b1
  have hin11 : ¬ ((4 : Int32) < 0 ∨ cl11.slots.size ≤ ((4 : Int32)).toNatClampNeg) := inb_of S11 ⟨by decide, by decide⟩
  obtain ⟨T11, h11, X11, e11, W11, st11⟩ := stR X10 hx hZ e10 Ar11 (j := (4 : Int32)) hin11 rfl (Sto.ofV Ar11 q11 O1 (Ins.self (E_DATE.keep K))) (g := (mkF m 34 #[.val (.int p1), .unset, .unset, .unset] [(.ref w_DATE), (.int (4 : Int32)), (.ref b1), (.ref b1)])) rfl rfl (hb hby at_34)
  have K := K.wr W11 (Or.inr sz_b1)
  have N := Fr.snoc X11 N g_b1
  have V_b1 : Arv Z h11 b1 k1 (.object "com/example/lictor/lictor/engine/DataType") (14 : Int32) [(.ref w_STRING), (.ref w_BOOLEAN), (.ref w_INTEGER), (.ref w_DOUBLE), (.ref w_DATE), .null, .null, .null, .null, .null, .null, .null, .null, .null] .null := Arv.set Ar11 q11 S11 M11 H11 G11 rfl W11 4 rfl (Nat.le_of_ble_eq_true rfl)
  refine own_via (T' := T11) (g' := (mkF m 35 #[.val (.int p1), .unset, .unset, .unset] [(.ref b1)])) st11 ?_
  refine own_via (T' := T11) (g' := (mkF m 36 #[.val (.int p1), .unset, .unset, .unset] [(.ref b1), (.ref b1)])) (fun t k => XS.dup X11.here hx rfl (hb hby at_35) rfl rfl k) ?_
  refine own_via (T' := T11) (g' := (mkF m 37 #[.val (.int p1), .unset, .unset, .unset] [(.int (5 : Int32)), (.ref b1), (.ref b1)])) (fun t k => XS.iconst X11.here hx rfl (hb hby at_36) k) ?_
  obtain ⟨T12, X12, e12, st12⟩ := getS2 X11 hx hZ hown (host := "") (Or.inl (hw _ (List.mem_of_getElem? (i := 14) rfl))) Via.refl e11 (own_staK S_TIME K) (g := (mkF m 37 #[.val (.int p1), .unset, .unset, .unset] [(.int (5 : Int32)), (.ref b1), (.ref b1)])) rfl (hb hby at_37)
  refine own_via (T' := T12) (g' := (mkF m 40 #[.val (.int p1), .unset, .unset, .unset] [(.ref w_TIME), (.int (5 : Int32)), (.ref b1), (.ref b1)])) st12 ?_
  obtain ⟨cl13, Ar13, q13, S13, M13, H13, G13⟩ := V_b1
  have hin13 : ¬ ((5 : Int32) < 0 ∨ cl13.slots.size ≤ ((5 : Int32)).toNatClampNeg) := inb_of S13 ⟨by decide, by decide⟩
  obtain ⟨T13, h13, X13, e13, W13, st13⟩ := stR X12 hx hZ e12 Ar13 (j := (5 : Int32)) hin13 rfl (Sto.ofV Ar13 q13 O1 (Ins.self (E_TIME.keep K))) (g := (mkF m 40 #[.val (.int p1), .unset, .unset, .unset] [(.ref w_TIME), (.int (5 : Int32)), (.ref b1), (.ref b1)])) rfl rfl (hb hby at_40)
  have K := K.wr W13 (Or.inr sz_b1)
  have N := Fr.snoc X13 N g_b1
  have V_b1 : Arv Z h13 b1 k1 (.object "com/example/lictor/lictor/engine/DataType") (14 : Int32) [(.ref w_STRING), (.ref w_BOOLEAN), (.ref w_INTEGER), (.ref w_DOUBLE), (.ref w_DATE), (.ref w_TIME), .null, .null, .null, .null, .null, .null, .null, .null] .null := Arv.set Ar13 q13 S13 M13 H13 G13 rfl W13 5 rfl (Nat.le_of_ble_eq_true rfl)
  refine own_via (T' := T13) (g' := (mkF m 41 #[.val (.int p1), .unset, .unset, .unset] [(.ref b1)])) st13 ?_
  refine own_via (T' := T13) (g' := (mkF m 42 #[.val (.int p1), .unset, .unset, .unset] [(.ref b1), (.ref b1)])) (fun t k => XS.dup X13.here hx rfl (hb hby at_41) rfl rfl k) ?_
  refine own_via (T' := T13) (g' := (mkF m 44 #[.val (.int p1), .unset, .unset, .unset] [(.int (6 : Int32)), (.ref b1), (.ref b1)])) (fun t k => XS.bipush X13.here hx rfl (hb hby at_42) k) ?_
  obtain ⟨T14, X14, e14, st14⟩ := getS2 X13 hx hZ hown (host := "") (Or.inl (hw _ (List.mem_of_getElem? (i := 16) rfl))) Via.refl e13 (own_staK S_DATE_TIME K) (g := (mkF m 44 #[.val (.int p1), .unset, .unset, .unset] [(.int (6 : Int32)), (.ref b1), (.ref b1)])) rfl (hb hby at_44)
  refine own_via (T' := T14) (g' := (mkF m 47 #[.val (.int p1), .unset, .unset, .unset] [(.ref w_DATE_TIME), (.int (6 : Int32)), (.ref b1), (.ref b1)])) st14 ?_
  obtain ⟨cl15, Ar15, q15, S15, M15, H15, G15⟩ := V_b1
  have hin15 : ¬ ((6 : Int32) < 0 ∨ cl15.slots.size ≤ ((6 : Int32)).toNatClampNeg) := inb_of S15 ⟨by decide, by decide⟩
  obtain ⟨T15, h15, X15, e15, W15, st15⟩ := stR X14 hx hZ e14 Ar15 (j := (6 : Int32)) hin15 rfl (Sto.ofV Ar15 q15 O1 (Ins.self (E_DATE_TIME.keep K))) (g := (mkF m 47 #[.val (.int p1), .unset, .unset, .unset] [(.ref w_DATE_TIME), (.int (6 : Int32)), (.ref b1), (.ref b1)])) rfl rfl (hb hby at_47)
  have K := K.wr W15 (Or.inr sz_b1)
  have N := Fr.snoc X15 N g_b1
  have V_b1 : Arv Z h15 b1 k1 (.object "com/example/lictor/lictor/engine/DataType") (14 : Int32) [(.ref w_STRING), (.ref w_BOOLEAN), (.ref w_INTEGER), (.ref w_DOUBLE), (.ref w_DATE), (.ref w_TIME), (.ref w_DATE_TIME), .null, .null, .null, .null, .null, .null, .null] .null := Arv.set Ar15 q15 S15 M15 H15 G15 rfl W15 6 rfl (Nat.le_of_ble_eq_true rfl)
  refine own_via (T' := T15) (g' := (mkF m 48 #[.val (.int p1), .unset, .unset, .unset] [(.ref b1)])) st15 ?_
  refine own_via (T' := T15) (g' := (mkF m 49 #[.val (.int p1), .unset, .unset, .unset] [(.ref b1), (.ref b1)])) (fun t k => XS.dup X15.here hx rfl (hb hby at_48) rfl rfl k) ?_
  refine own_via (T' := T15) (g' := (mkF m 51 #[.val (.int p1), .unset, .unset, .unset] [(.int (7 : Int32)), (.ref b1), (.ref b1)])) (fun t k => XS.bipush X15.here hx rfl (hb hby at_49) k) ?_
  obtain ⟨T16, X16, e16, st16⟩ := getS2 X15 hx hZ hown (host := "") (Or.inl (hw _ (List.mem_of_getElem? (i := 18) rfl))) Via.refl e15 (own_staK S_DAY_TIME_DURATION K) (g := (mkF m 51 #[.val (.int p1), .unset, .unset, .unset] [(.int (7 : Int32)), (.ref b1), (.ref b1)])) rfl (hb hby at_51)
  refine own_via (T' := T16) (g' := (mkF m 54 #[.val (.int p1), .unset, .unset, .unset] [(.ref w_DAY_TIME_DURATION), (.int (7 : Int32)), (.ref b1), (.ref b1)])) st16 ?_
  obtain ⟨cl17, Ar17, q17, S17, M17, H17, G17⟩ := V_b1
  have hin17 : ¬ ((7 : Int32) < 0 ∨ cl17.slots.size ≤ ((7 : Int32)).toNatClampNeg) := inb_of S17 ⟨by decide, by decide⟩
  obtain ⟨T17, h17, X17, e17, W17, st17⟩ := stR X16 hx hZ e16 Ar17 (j := (7 : Int32)) hin17 rfl (Sto.ofV Ar17 q17 O1 (Ins.self (E_DAY_TIME_DURATION.keep K))) (g := (mkF m 54 #[.val (.int p1), .unset, .unset, .unset] [(.ref w_DAY_TIME_DURATION), (.int (7 : Int32)), (.ref b1), (.ref b1)])) rfl rfl (hb hby at_54)
  have K := K.wr W17 (Or.inr sz_b1)
  have N := Fr.snoc X17 N g_b1
  have V_b1 : Arv Z h17 b1 k1 (.object "com/example/lictor/lictor/engine/DataType") (14 : Int32) [(.ref w_STRING), (.ref w_BOOLEAN), (.ref w_INTEGER), (.ref w_DOUBLE), (.ref w_DATE), (.ref w_TIME), (.ref w_DATE_TIME), (.ref w_DAY_TIME_DURATION), .null, .null, .null, .null, .null, .null] .null := Arv.set Ar17 q17 S17 M17 H17 G17 rfl W17 7 rfl (Nat.le_of_ble_eq_true rfl)
  refine own_via (T' := T17) (g' := (mkF m 55 #[.val (.int p1), .unset, .unset, .unset] [(.ref b1)])) st17 ?_
  refine own_via (T' := T17) (g' := (mkF m 56 #[.val (.int p1), .unset, .unset, .unset] [(.ref b1), (.ref b1)])) (fun t k => XS.dup X17.here hx rfl (hb hby at_55) rfl rfl k) ?_
  refine own_via (T' := T17) (g' := (mkF m 58 #[.val (.int p1), .unset, .unset, .unset] [(.int (8 : Int32)), (.ref b1), (.ref b1)])) (fun t k => XS.bipush X17.here hx rfl (hb hby at_56) k) ?_
  obtain ⟨T18, X18, e18, st18⟩ := getS2 X17 hx hZ hown (host := "") (Or.inl (hw _ (List.mem_of_getElem? (i := 20) rfl))) Via.refl e17 (own_staK S_YEAR_MONTH_DURATION K) (g := (mkF m 58 #[.val (.int p1), .unset, .unset, .unset] [(.int (8 : Int32)), (.ref b1), (.ref b1)])) rfl (hb hby at_58)
  refine own_via (T' := T18) (g' := (mkF m 61 #[.val (.int p1), .unset, .unset, .unset] [(.ref w_YEAR_MONTH_DURATION), (.int (8 : Int32)), (.ref b1), (.ref b1)])) st18 ?_
  obtain ⟨cl19, Ar19, q19, S19, M19, H19, G19⟩ := V_b1
  have hin19 : ¬ ((8 : Int32) < 0 ∨ cl19.slots.size ≤ ((8 : Int32)).toNatClampNeg) := inb_of S19 ⟨by decide, by decide⟩
  obtain ⟨T19, h19, X19, e19, W19, st19⟩ := stR X18 hx hZ e18 Ar19 (j := (8 : Int32)) hin19 rfl (Sto.ofV Ar19 q19 O1 (Ins.self (E_YEAR_MONTH_DURATION.keep K))) (g := (mkF m 61 #[.val (.int p1), .unset, .unset, .unset] [(.ref w_YEAR_MONTH_DURATION), (.int (8 : Int32)), (.ref b1), (.ref b1)])) rfl rfl (hb hby at_61)
  have K := K.wr W19 (Or.inr sz_b1)
  have N := Fr.snoc X19 N g_b1
  have V_b1 : Arv Z h19 b1 k1 (.object "com/example/lictor/lictor/engine/DataType") (14 : Int32) [(.ref w_STRING), (.ref w_BOOLEAN), (.ref w_INTEGER), (.ref w_DOUBLE), (.ref w_DATE), (.ref w_TIME), (.ref w_DATE_TIME), (.ref w_DAY_TIME_DURATION), (.ref w_YEAR_MONTH_DURATION), .null, .null, .null, .null, .null] .null := Arv.set Ar19 q19 S19 M19 H19 G19 rfl W19 8 rfl (Nat.le_of_ble_eq_true rfl)
  refine own_via (T' := T19) (g' := (mkF m 62 #[.val (.int p1), .unset, .unset, .unset] [(.ref b1)])) st19 ?_
  refine own_via (T' := T19) (g' := (mkF m 63 #[.val (.int p1), .unset, .unset, .unset] [(.ref b1), (.ref b1)])) (fun t k => XS.dup X19.here hx rfl (hb hby at_62) rfl rfl k) ?_
  refine own_via (T' := T19) (g' := (mkF m 65 #[.val (.int p1), .unset, .unset, .unset] [(.int (9 : Int32)), (.ref b1), (.ref b1)])) (fun t k => XS.bipush X19.here hx rfl (hb hby at_63) k) ?_
  obtain ⟨T20, X20, e20, st20⟩ := getS2 X19 hx hZ hown (host := "") (Or.inl (hw _ (List.mem_of_getElem? (i := 22) rfl))) Via.refl e19 (own_staK S_ANY_URI K) (g := (mkF m 65 #[.val (.int p1), .unset, .unset, .unset] [(.int (9 : Int32)), (.ref b1), (.ref b1)])) rfl (hb hby at_65)
  refine own_via (T' := T20) (g' := (mkF m 68 #[.val (.int p1), .unset, .unset, .unset] [(.ref w_ANY_URI), (.int (9 : Int32)), (.ref b1), (.ref b1)])) st20 ?_
  obtain ⟨cl21, Ar21, q21, S21, M21, H21, G21⟩ := V_b1
  have hin21 : ¬ ((9 : Int32) < 0 ∨ cl21.slots.size ≤ ((9 : Int32)).toNatClampNeg) := inb_of S21 ⟨by decide, by decide⟩
  obtain ⟨T21, h21, X21, e21, W21, st21⟩ := stR X20 hx hZ e20 Ar21 (j := (9 : Int32)) hin21 rfl (Sto.ofV Ar21 q21 O1 (Ins.self (E_ANY_URI.keep K))) (g := (mkF m 68 #[.val (.int p1), .unset, .unset, .unset] [(.ref w_ANY_URI), (.int (9 : Int32)), (.ref b1), (.ref b1)])) rfl rfl (hb hby at_68)
  have K := K.wr W21 (Or.inr sz_b1)
  have N := Fr.snoc X21 N g_b1
  have V_b1 : Arv Z h21 b1 k1 (.object "com/example/lictor/lictor/engine/DataType") (14 : Int32) [(.ref w_STRING), (.ref w_BOOLEAN), (.ref w_INTEGER), (.ref w_DOUBLE), (.ref w_DATE), (.ref w_TIME), (.ref w_DATE_TIME), (.ref w_DAY_TIME_DURATION), (.ref w_YEAR_MONTH_DURATION), (.ref w_ANY_URI), .null, .null, .null, .null] .null := Arv.set Ar21 q21 S21 M21 H21 G21 rfl W21 9 rfl (Nat.le_of_ble_eq_true rfl)
  refine own_via (T' := T21) (g' := (mkF m 69 #[.val (.int p1), .unset, .unset, .unset] [(.ref b1)])) st21 ?_
  refine own_via (T' := T21) (g' := (mkF m 70 #[.val (.int p1), .unset, .unset, .unset] [(.ref b1), (.ref b1)])) (fun t k => XS.dup X21.here hx rfl (hb hby at_69) rfl rfl k) ?_
  refine own_via (T' := T21) (g' := (mkF m 72 #[.val (.int p1), .unset, .unset, .unset] [(.int (10 : Int32)), (.ref b1), (.ref b1)])) (fun t k => XS.bipush X21.here hx rfl (hb hby at_70) k) ?_
  obtain ⟨T22, X22, e22, st22⟩ := getS2 X21 hx hZ hown (host := "") (Or.inl (hw _ (List.mem_of_getElem? (i := 24) rfl))) Via.refl e21 (own_staK S_HEX_BINARY K) (g := (mkF m 72 #[.val (.int p1), .unset, .unset, .unset] [(.int (10 : Int32)), (.ref b1), (.ref b1)])) rfl (hb hby at_72)
  refine own_via (T' := T22) (g' := (mkF m 75 #[.val (.int p1), .unset, .unset, .unset] [(.ref w_HEX_BINARY), (.int (10 : Int32)), (.ref b1), (.ref b1)])) st22 ?_
  obtain ⟨cl23, Ar23, q23, S23, M23, H23, G23⟩ := V_b1
  have hin23 : ¬ ((10 : Int32) < 0 ∨ cl23.slots.size ≤ ((10 : Int32)).toNatClampNeg) := inb_of S23 ⟨by decide, by decide⟩
  obtain ⟨T23, h23, X23, e23, W23, st23⟩ := stR X22 hx hZ e22 Ar23 (j := (10 : Int32)) hin23 rfl (Sto.ofV Ar23 q23 O1 (Ins.self (E_HEX_BINARY.keep K))) (g := (mkF m 75 #[.val (.int p1), .unset, .unset, .unset] [(.ref w_HEX_BINARY), (.int (10 : Int32)), (.ref b1), (.ref b1)])) rfl rfl (hb hby at_75)
  have K := K.wr W23 (Or.inr sz_b1)
  have N := Fr.snoc X23 N g_b1
  have V_b1 : Arv Z h23 b1 k1 (.object "com/example/lictor/lictor/engine/DataType") (14 : Int32) [(.ref w_STRING), (.ref w_BOOLEAN), (.ref w_INTEGER), (.ref w_DOUBLE), (.ref w_DATE), (.ref w_TIME), (.ref w_DATE_TIME), (.ref w_DAY_TIME_DURATION), (.ref w_YEAR_MONTH_DURATION), (.ref w_ANY_URI), (.ref w_HEX_BINARY), .null, .null, .null] .null := Arv.set Ar23 q23 S23 M23 H23 G23 rfl W23 10 rfl (Nat.le_of_ble_eq_true rfl)
  refine own_via (T' := T23) (g' := (mkF m 76 #[.val (.int p1), .unset, .unset, .unset] [(.ref b1)])) st23 ?_
  refine own_via (T' := T23) (g' := (mkF m 77 #[.val (.int p1), .unset, .unset, .unset] [(.ref b1), (.ref b1)])) (fun t k => XS.dup X23.here hx rfl (hb hby at_76) rfl rfl k) ?_
  refine own_via (T' := T23) (g' := (mkF m 79 #[.val (.int p1), .unset, .unset, .unset] [(.int (11 : Int32)), (.ref b1), (.ref b1)])) (fun t k => XS.bipush X23.here hx rfl (hb hby at_77) k) ?_
  obtain ⟨T24, X24, e24, st24⟩ := getS2 X23 hx hZ hown (host := "") (Or.inl (hw _ (List.mem_of_getElem? (i := 26) rfl))) Via.refl e23 (own_staK S_BASE64_BINARY K) (g := (mkF m 79 #[.val (.int p1), .unset, .unset, .unset] [(.int (11 : Int32)), (.ref b1), (.ref b1)])) rfl (hb hby at_79)
  refine own_via (T' := T24) (g' := (mkF m 82 #[.val (.int p1), .unset, .unset, .unset] [(.ref w_BASE64_BINARY), (.int (11 : Int32)), (.ref b1), (.ref b1)])) st24 ?_
  obtain ⟨cl25, Ar25, q25, S25, M25, H25, G25⟩ := V_b1
  have hin25 : ¬ ((11 : Int32) < 0 ∨ cl25.slots.size ≤ ((11 : Int32)).toNatClampNeg) := inb_of S25 ⟨by decide, by decide⟩
  obtain ⟨T25, h25, X25, e25, W25, st25⟩ := stR X24 hx hZ e24 Ar25 (j := (11 : Int32)) hin25 rfl (Sto.ofV Ar25 q25 O1 (Ins.self (E_BASE64_BINARY.keep K))) (g := (mkF m 82 #[.val (.int p1), .unset, .unset, .unset] [(.ref w_BASE64_BINARY), (.int (11 : Int32)), (.ref b1), (.ref b1)])) rfl rfl (hb hby at_82)
  have K := K.wr W25 (Or.inr sz_b1)
  have N := Fr.snoc X25 N g_b1
  have V_b1 : Arv Z h25 b1 k1 (.object "com/example/lictor/lictor/engine/DataType") (14 : Int32) [(.ref w_STRING), (.ref w_BOOLEAN), (.ref w_INTEGER), (.ref w_DOUBLE), (.ref w_DATE), (.ref w_TIME), (.ref w_DATE_TIME), (.ref w_DAY_TIME_DURATION), (.ref w_YEAR_MONTH_DURATION), (.ref w_ANY_URI), (.ref w_HEX_BINARY), (.ref w_BASE64_BINARY), .null, .null] .null := Arv.set Ar25 q25 S25 M25 H25 G25 rfl W25 11 rfl (Nat.le_of_ble_eq_true rfl)
  refine own_via (T' := T25) (g' := (mkF m 83 #[.val (.int p1), .unset, .unset, .unset] [(.ref b1)])) st25 ?_
  refine own_via (T' := T25) (g' := (mkF m 84 #[.val (.int p1), .unset, .unset, .unset] [(.ref b1), (.ref b1)])) (fun t k => XS.dup X25.here hx rfl (hb hby at_83) rfl rfl k) ?_
  refine own_via (T' := T25) (g' := (mkF m 86 #[.val (.int p1), .unset, .unset, .unset] [(.int (12 : Int32)), (.ref b1), (.ref b1)])) (fun t k => XS.bipush X25.here hx rfl (hb hby at_84) k) ?_
  obtain ⟨T26, X26, e26, st26⟩ := getS2 X25 hx hZ hown (host := "") (Or.inl (hw _ (List.mem_of_getElem? (i := 28) rfl))) Via.refl e25 (own_staK S_X500_NAME K) (g := (mkF m 86 #[.val (.int p1), .unset, .unset, .unset] [(.int (12 : Int32)), (.ref b1), (.ref b1)])) rfl (hb hby at_86)
  refine own_via (T' := T26) (g' := (mkF m 89 #[.val (.int p1), .unset, .unset, .unset] [(.ref w_X500_NAME), (.int (12 : Int32)), (.ref b1), (.ref b1)])) st26 ?_
  obtain ⟨cl27, Ar27, q27, S27, M27, H27, G27⟩ := V_b1
  have hin27 : ¬ ((12 : Int32) < 0 ∨ cl27.slots.size ≤ ((12 : Int32)).toNatClampNeg) := inb_of S27 ⟨by decide, by decide⟩
  obtain ⟨T27, h27, X27, e27, W27, st27⟩ := stR X26 hx hZ e26 Ar27 (j := (12 : Int32)) hin27 rfl (Sto.ofV Ar27 q27 O1 (Ins.self (E_X500_NAME.keep K))) (g := (mkF m 89 #[.val (.int p1), .unset, .unset, .unset] [(.ref w_X500_NAME), (.int (12 : Int32)), (.ref b1), (.ref b1)])) rfl rfl (hb hby at_89)
  have K := K.wr W27 (Or.inr sz_b1)
  have N := Fr.snoc X27 N g_b1
  have V_b1 : Arv Z h27 b1 k1 (.object "com/example/lictor/lictor/engine/DataType") (14 : Int32) [(.ref w_STRING), (.ref w_BOOLEAN), (.ref w_INTEGER), (.ref w_DOUBLE), (.ref w_DATE), (.ref w_TIME), (.ref w_DATE_TIME), (.ref w_DAY_TIME_DURATION), (.ref w_YEAR_MONTH_DURATION), (.ref w_ANY_URI), (.ref w_HEX_BINARY), (.ref w_BASE64_BINARY), (.ref w_X500_NAME), .null] .null := Arv.set Ar27 q27 S27 M27 H27 G27 rfl W27 12 rfl (Nat.le_of_ble_eq_true rfl)
  refine own_via (T' := T27) (g' := (mkF m 90 #[.val (.int p1), .unset, .unset, .unset] [(.ref b1)])) st27 ?_
  refine own_via (T' := T27) (g' := (mkF m 91 #[.val (.int p1), .unset, .unset, .unset] [(.ref b1), (.ref b1)])) (fun t k => XS.dup X27.here hx rfl (hb hby at_90) rfl rfl k) ?_
  refine own_via (T' := T27) (g' := (mkF m 93 #[.val (.int p1), .unset, .unset, .unset] [(.int (13 : Int32)), (.ref b1), (.ref b1)])) (fun t k => XS.bipush X27.here hx rfl (hb hby at_91) k) ?_
  obtain ⟨T28, X28, e28, st28⟩ := getS2 X27 hx hZ hown (host := "") (Or.inl (hw _ (List.mem_of_getElem? (i := 30) rfl))) Via.refl e27 (own_staK S_RFC822_NAME K) (g := (mkF m 93 #[.val (.int p1), .unset, .unset, .unset] [(.int (13 : Int32)), (.ref b1), (.ref b1)])) rfl (hb hby at_93)
  refine own_via (T' := T28) (g' := (mkF m 96 #[.val (.int p1), .unset, .unset, .unset] [(.ref w_RFC822_NAME), (.int (13 : Int32)), (.ref b1), (.ref b1)])) st28 ?_
  obtain ⟨cl29, Ar29, q29, S29, M29, H29, G29⟩ := V_b1
  have hin29 : ¬ ((13 : Int32) < 0 ∨ cl29.slots.size ≤ ((13 : Int32)).toNatClampNeg) := inb_of S29 ⟨by decide, by decide⟩
  obtain ⟨T29, h29, X29, e29, W29, st29⟩ := stR X28 hx hZ e28 Ar29 (j := (13 : Int32)) hin29 rfl (Sto.ofV Ar29 q29 O1 (Ins.self (E_RFC822_NAME.keep K))) (g := (mkF m 96 #[.val (.int p1), .unset, .unset, .unset] [(.ref w_RFC822_NAME), (.int (13 : Int32)), (.ref b1), (.ref b1)])) rfl rfl (hb hby at_96)
  have K := K.wr W29 (Or.inr sz_b1)
  have N := Fr.snoc X29 N g_b1
  have V_b1 : Arv Z h29 b1 k1 (.object "com/example/lictor/lictor/engine/DataType") (14 : Int32) [(.ref w_STRING), (.ref w_BOOLEAN), (.ref w_INTEGER), (.ref w_DOUBLE), (.ref w_DATE), (.ref w_TIME), (.ref w_DATE_TIME), (.ref w_DAY_TIME_DURATION), (.ref w_YEAR_MONTH_DURATION), (.ref w_ANY_URI), (.ref w_HEX_BINARY), (.ref w_BASE64_BINARY), (.ref w_X500_NAME), (.ref w_RFC822_NAME)] .null := Arv.set Ar29 q29 S29 M29 H29 G29 rfl W29 13 rfl (Nat.le_of_ble_eq_true rfl)
  refine own_via (T' := T29) (g' := (mkF m 97 #[.val (.int p1), .unset, .unset, .unset] [(.ref b1)])) st29 ?_
  refine own_via (T' := T29) (g' := (mkF m 98 #[.val (.int p1), .val (.ref b1), .unset, .unset] [])) (fun t k => XS.astoreN X29.here hx rfl (hb hby at_97) rfl rfl (l' := #[.val (.int p1), .val (.ref b1), .unset, .unset]) rfl k) ?_
  refine own_via (T' := T29) (g' := (mkF m 99 #[.val (.int p1), .val (.ref b1), .unset, .unset] [(.int p1)])) (fun t k => XS.iloadN X29.here hx rfl (hb hby at_98) rfl k) ?_
  refine own_via (T' := T29) (g' := (mkF m 101 #[.val (.int p1), .val (.ref b1), .unset, .unset] [(.int (2147483647 : Int32)), (.int p1)])) (fun t k => Stand.ldcI (g := (mkF m 99 #[.val (.int p1), .val (.ref b1), .unset, .unset] [(.int p1)])) X29 hx hown (mvT hZ (hw _ (List.mem_of_getElem? (i := 32) rfl))) rfl (hb hby at_99) k) ?_
  refine own_via (T' := T29) (g' := (mkF m 102 #[.val (.int p1), .val (.ref b1), .unset, .unset] [(.int (p1 &&& (2147483647 : Int32)))])) (fun t k => XS.iand X29.here hx rfl (hb hby at_101) rfl k) ?_
  refine own_via (T' := T29) (g' := (mkF m 104 #[.val (.int p1), .val (.ref b1), .unset, .unset] [(.int (14 : Int32)), (.int (p1 &&& (2147483647 : Int32)))])) (fun t k => XS.bipush X29.here hx rfl (hb hby at_102) k) ?_
  refine own_via (T' := T29) (g' := (mkF m 105 #[.val (.int p1), .val (.ref b1), .unset, .unset] [(.int ((p1 &&& (2147483647 : Int32)) % (14 : Int32)))])) (fun t k => iremM X29 hx rfl (hb hby at_104) rfl (by decide) k) ?_
  generalize hi : ((p1 &&& (2147483647 : Int32)) % (14 : Int32)) = i
  rcases own_mod14 p1 i hi with rfl | rfl | rfl | rfl | rfl | rfl | rfl | rfl | rfl | rfl | rfl | rfl | rfl | rfl
  · refine own_via (T' := T29) (g' := (mkF m 106 #[.val (.int p1), .val (.ref b1), .val (.int (0 : Int32)), .unset] [])) (fun t k => XS.istoreN X29.here hx rfl (hb hby at_105) rfl (l' := #[.val (.int p1), .val (.ref b1), .val (.int (0 : Int32)), .unset]) rfl k) ?_
    refine own_via (T' := T29) (g' := (mkF m 107 #[.val (.int p1), .val (.ref b1), .val (.int (0 : Int32)), .unset] [(.int (0 : Int32))])) (fun t k => XS.iloadN X29.here hx rfl (hb hby at_106) rfl k) ?_
    refine own_via (T' := T29) (g' := (mkF m 109 #[.val (.int p1), .val (.ref b1), .val (.int (0 : Int32)), .unset] [(.int (6 : Int32)), (.int (0 : Int32))])) (fun t k => XS.bipush X29.here hx rfl (hb hby at_107) k) ?_
    refine own_via (T' := T29) (g' := (mkF m 112 #[.val (.int p1), .val (.ref b1), .val (.int (0 : Int32)), .unset] [])) (fun t k => XS.icmpNo X29.here hx rfl (hb hby at_109) rfl (flt (by decide)).2.2.1 k) ?_
    refine own_via (T' := T29) (g' := (mkF m 113 #[.val (.int p1), .val (.ref b1), .val (.int (0 : Int32)), .unset] [(.int (0 : Int32))])) (fun t k => XS.iloadN X29.here hx rfl (hb hby at_112) rfl k) ?_
    refine own_via (T' := T29) (g' := (mkF m 114 #[.val (.int p1), .val (.ref b1), .val (.int (0 : Int32)), .unset] [(.int (1 : Int32)), (.int (0 : Int32))])) (fun t k => XS.iconst X29.here hx rfl (hb hby at_113) k) ?_
    refine own_via (T' := T29) (g' := (mkF m 117 #[.val (.int p1), .val (.ref b1), .val (.int (0 : Int32)), .unset] [])) (fun t k => XS.icmpNo X29.here hx rfl (hb hby at_114) rfl (feq (by decide)).1 k) ?_
    refine own_via (T' := T29) (g' := (mkF m 118 #[.val (.int p1), .val (.ref b1), .val (.int (0 : Int32)), .unset] [(.int (1 : Int32))])) (fun t k => XS.iconst X29.here hx rfl (hb hby at_117) k) ?_
    refine own_via (T' := T29) (g' := (mkF m 122 #[.val (.int p1), .val (.ref b1), .val (.int (0 : Int32)), .unset] [(.int (1 : Int32))])) (fun t k => XS.goto X29.here hx rfl (pc0 := 118) (pc' := 122) rfl (hb hby at_118) (by decide) (by decide) k) ?_
    refine own_via (T' := T29) (g' := (mkF m 123 #[.val (.int p1), .val (.ref b1), .val (.int (0 : Int32)), .val (.int (1 : Int32))] [])) (fun t k => XS.istoreN X29.here hx rfl (hb hby at_122) rfl (l' := #[.val (.int p1), .val (.ref b1), .val (.int (0 : Int32)), .val (.int (1 : Int32))]) rfl k) ?_
    refine own_via (T' := T29) (g' := (mkF m 124 #[.val (.int p1), .val (.ref b1), .val (.int (0 : Int32)), .val (.int (1 : Int32))] [(.ref b1)])) (fun t k => XS.aloadN X29.here hx rfl (hb hby at_123) rfl rfl k) ?_
    refine own_via (T' := T29) (g' := (mkF m 125 #[.val (.int p1), .val (.ref b1), .val (.int (0 : Int32)), .val (.int (1 : Int32))] [(.int (0 : Int32)), (.ref b1)])) (fun t k => XS.iloadN X29.here hx rfl (hb hby at_124) rfl k) ?_
    obtain ⟨cl30, Ar30, q30, S30, M30, H30, G30⟩ := V_b1
    have V_b1 : Arv Z h29 b1 k1 (.object "com/example/lictor/lictor/engine/DataType") (14 : Int32) [(.ref w_STRING), (.ref w_BOOLEAN), (.ref w_INTEGER), (.ref w_DOUBLE), (.ref w_DATE), (.ref w_TIME), (.ref w_DATE_TIME), (.ref w_DAY_TIME_DURATION), (.ref w_YEAR_MONTH_DURATION), (.ref w_ANY_URI), (.ref w_HEX_BINARY), (.ref w_BASE64_BINARY), (.ref w_X500_NAME), (.ref w_RFC822_NAME)] .null := ⟨cl30, Ar30, q30, S30, M30, H30, G30⟩
    have hin30 : ¬ ((0 : Int32) < 0 ∨ cl30.slots.size ≤ ((0 : Int32)).toNatClampNeg) := inb_of S30 ⟨by decide, by decide⟩
    have hat30 : cl30.slots[((0 : Int32)).toNatClampNeg]? = some (.ref w_STRING) := Has.at H30 hin30 rfl
    refine own_via (T' := T29) (g' := (mkF m 126 #[.val (.int p1), .val (.ref b1), .val (.int (0 : Int32)), .val (.int (1 : Int32))] [(.ref w_STRING)])) (fun t k => X29.aaload hx (j := (0 : Int32)) (v := (.ref w_STRING)) (by rw [e29]; exact Ar30.1) (State.isArrayOf_alike hZ.alike Ar30.2.1) rfl Ar30.2.2 hin30 hat30 (g := (mkF m 125 #[.val (.int p1), .val (.ref b1), .val (.int (0 : Int32)), .val (.int (1 : Int32))] [(.int (0 : Int32)), (.ref b1)])) rfl rfl (hb hby at_125) t k) ?_
    obtain ⟨T31, X31, e31, st31⟩ := own_callV (W := 0) (r := (some (.int (1 : Int32)))) (y := (⟨"com/example/lictor/lictor/engine/DataType", "isOrdered", "()Z"⟩ : MethodName)) (z := (⟨"com/example/lictor/lictor/engine/DataType", "isOrdered", "()Z"⟩ : MethodName)) X29 hx hZ hown (hw _ (List.mem_of_getElem? (i := 33) rfl)) (hw _ (List.mem_of_getElem? (i := 34) rfl)) (notFace_of_selects (args := #[]) (mvT hZ (hw _ (List.mem_of_getElem? (i := 36) rfl)))) (hw _ (List.mem_of_getElem? (i := 36) rfl)) (hw _ (List.mem_of_getElem? (i := 35) rfl)) (by decide) (hw _ (List.mem_of_getElem? (i := 37) rfl)) (hw _ (List.mem_of_getElem? (i := 3) rfl)) (own_io l Z a0 hw w_STRING (0 : Int32) (1 : Int32) h29 (E_STRING.keep K) (O_STRING.keep K nin0) (by decide) (by decide)) e29 (E_STRING.keep K) (by decide) (by decide) (by decide) (by decide) (g := (mkF m 126 #[.val (.int p1), .val (.ref b1), .val (.int (0 : Int32)), .val (.int (1 : Int32))] [(.ref w_STRING)])) rfl (by rw [hml]; rfl) (argsL := []) (rest := []) (lenOf pd_11 rfl) rfl (by show 2 * 0 + _ ≤ _; exact Nat.le_of_eq rfl) (hb hby at_126) rfl
    refine own_via (T' := T31) (g' := (mkF m 129 #[.val (.int p1), .val (.ref b1), .val (.int (0 : Int32)), .val (.int (1 : Int32))] [(.int (1 : Int32))])) st31 ?_
    refine own_via (T' := T31) (g' := (mkF m 130 #[.val (.int p1), .val (.ref b1), .val (.int (0 : Int32)), .val (.int (1 : Int32))] [(.int (1 : Int32)), (.int (1 : Int32))])) (fun t k => XS.iloadN X31.here hx rfl (hb hby at_129) rfl k) ?_
    refine own_via (T' := T31) (g' := (mkF m 133 #[.val (.int p1), .val (.ref b1), .val (.int (0 : Int32)), .val (.int (1 : Int32))] [])) (fun t k => XS.icmpNo X31.here hx rfl (hb hby at_130) rfl (teq rfl).2 k) ?_
    refine own_via (T' := T31) (g' := (mkF m 134 #[.val (.int p1), .val (.ref b1), .val (.int (0 : Int32)), .val (.int (1 : Int32))] [(.int (1 : Int32))])) (fun t k => XS.iconst X31.here hx rfl (hb hby at_133) k) ?_
    refine own_via (T' := T31) (g' := (mkF m 138 #[.val (.int p1), .val (.ref b1), .val (.int (0 : Int32)), .val (.int (1 : Int32))] [(.int (1 : Int32))])) (fun t k => XS.goto X31.here hx rfl (pc0 := 134) (pc' := 138) rfl (hb hby at_134) (by decide) (by decide) k) ?_
    exact own_ret (t := .boolean) X31 hx Bd.returns hlk rfl (Or.inl ⟨rfl, by simp, _, rfl⟩) (hb hby at_138) (by decide) (by decide) ⟨rfl, N⟩
  · refine own_via (T' := T29) (g' := (mkF m 106 #[.val (.int p1), .val (.ref b1), .val (.int (1 : Int32)), .unset] [])) (fun t k => XS.istoreN X29.here hx rfl (hb hby at_105) rfl (l' := #[.val (.int p1), .val (.ref b1), .val (.int (1 : Int32)), .unset]) rfl k) ?_
    refine own_via (T' := T29) (g' := (mkF m 107 #[.val (.int p1), .val (.ref b1), .val (.int (1 : Int32)), .unset] [(.int (1 : Int32))])) (fun t k => XS.iloadN X29.here hx rfl (hb hby at_106) rfl k) ?_
    refine own_via (T' := T29) (g' := (mkF m 109 #[.val (.int p1), .val (.ref b1), .val (.int (1 : Int32)), .unset] [(.int (6 : Int32)), (.int (1 : Int32))])) (fun t k => XS.bipush X29.here hx rfl (hb hby at_107) k) ?_
    refine own_via (T' := T29) (g' := (mkF m 112 #[.val (.int p1), .val (.ref b1), .val (.int (1 : Int32)), .unset] [])) (fun t k => XS.icmpNo X29.here hx rfl (hb hby at_109) rfl (flt (by decide)).2.2.1 k) ?_
    refine own_via (T' := T29) (g' := (mkF m 113 #[.val (.int p1), .val (.ref b1), .val (.int (1 : Int32)), .unset] [(.int (1 : Int32))])) (fun t k => XS.iloadN X29.here hx rfl (hb hby at_112) rfl k) ?_
    refine own_via (T' := T29) (g' := (mkF m 114 #[.val (.int p1), .val (.ref b1), .val (.int (1 : Int32)), .unset] [(.int (1 : Int32)), (.int (1 : Int32))])) (fun t k => XS.iconst X29.here hx rfl (hb hby at_113) k) ?_
    refine own_via (T' := T29) (g' := (mkF m 121 #[.val (.int p1), .val (.ref b1), .val (.int (1 : Int32)), .unset] [])) (fun t k => XS.icmpYes X29.here hx rfl (pc0 := 114) (pc' := 121) rfl (hb hby at_114) rfl (teq rfl).1 (by decide) (by decide) k) ?_
    refine own_via (T' := T29) (g' := (mkF m 122 #[.val (.int p1), .val (.ref b1), .val (.int (1 : Int32)), .unset] [(.int (0 : Int32))])) (fun t k => XS.iconst X29.here hx rfl (hb hby at_121) k) ?_
    refine own_via (T' := T29) (g' := (mkF m 123 #[.val (.int p1), .val (.ref b1), .val (.int (1 : Int32)), .val (.int (0 : Int32))] [])) (fun t k => XS.istoreN X29.here hx rfl (hb hby at_122) rfl (l' := #[.val (.int p1), .val (.ref b1), .val (.int (1 : Int32)), .val (.int (0 : Int32))]) rfl k) ?_
    refine own_via (T' := T29) (g' := (mkF m 124 #[.val (.int p1), .val (.ref b1), .val (.int (1 : Int32)), .val (.int (0 : Int32))] [(.ref b1)])) (fun t k => XS.aloadN X29.here hx rfl (hb hby at_123) rfl rfl k) ?_
    refine own_via (T' := T29) (g' := (mkF m 125 #[.val (.int p1), .val (.ref b1), .val (.int (1 : Int32)), .val (.int (0 : Int32))] [(.int (1 : Int32)), (.ref b1)])) (fun t k => XS.iloadN X29.here hx rfl (hb hby at_124) rfl k) ?_
    obtain ⟨cl32, Ar32, q32, S32, M32, H32, G32⟩ := V_b1
    have V_b1 : Arv Z h29 b1 k1 (.object "com/example/lictor/lictor/engine/DataType") (14 : Int32) [(.ref w_STRING), (.ref w_BOOLEAN), (.ref w_INTEGER), (.ref w_DOUBLE), (.ref w_DATE), (.ref w_TIME), (.ref w_DATE_TIME), (.ref w_DAY_TIME_DURATION), (.ref w_YEAR_MONTH_DURATION), (.ref w_ANY_URI), (.ref w_HEX_BINARY), (.ref w_BASE64_BINARY), (.ref w_X500_NAME), (.ref w_RFC822_NAME)] .null := ⟨cl32, Ar32, q32, S32, M32, H32, G32⟩
    have hin32 : ¬ ((1 : Int32) < 0 ∨ cl32.slots.size ≤ ((1 : Int32)).toNatClampNeg) := inb_of S32 ⟨by decide, by decide⟩
    have hat32 : cl32.slots[((1 : Int32)).toNatClampNeg]? = some (.ref w_BOOLEAN) := Has.at H32 hin32 rfl
    refine own_via (T' := T29) (g' := (mkF m 126 #[.val (.int p1), .val (.ref b1), .val (.int (1 : Int32)), .val (.int (0 : Int32))] [(.ref w_BOOLEAN)])) (fun t k => X29.aaload hx (j := (1 : Int32)) (v := (.ref w_BOOLEAN)) (by rw [e29]; exact Ar32.1) (State.isArrayOf_alike hZ.alike Ar32.2.1) rfl Ar32.2.2 hin32 hat32 (g := (mkF m 125 #[.val (.int p1), .val (.ref b1), .val (.int (1 : Int32)), .val (.int (0 : Int32))] [(.int (1 : Int32)), (.ref b1)])) rfl rfl (hb hby at_125) t k) ?_
    obtain ⟨T33, X33, e33, st33⟩ := own_callV (W := 0) (r := (some (.int (0 : Int32)))) (y := (⟨"com/example/lictor/lictor/engine/DataType", "isOrdered", "()Z"⟩ : MethodName)) (z := (⟨"com/example/lictor/lictor/engine/DataType", "isOrdered", "()Z"⟩ : MethodName)) X29 hx hZ hown (hw _ (List.mem_of_getElem? (i := 33) rfl)) (hw _ (List.mem_of_getElem? (i := 34) rfl)) (notFace_of_selects (args := #[]) (mvT hZ (hw _ (List.mem_of_getElem? (i := 36) rfl)))) (hw _ (List.mem_of_getElem? (i := 36) rfl)) (hw _ (List.mem_of_getElem? (i := 35) rfl)) (by decide) (hw _ (List.mem_of_getElem? (i := 37) rfl)) (hw _ (List.mem_of_getElem? (i := 3) rfl)) (own_io l Z a0 hw w_BOOLEAN (1 : Int32) (0 : Int32) h29 (E_BOOLEAN.keep K) (O_BOOLEAN.keep K nin0) (by decide) (by decide)) e29 (E_BOOLEAN.keep K) (by decide) (by decide) (by decide) (by decide) (g := (mkF m 126 #[.val (.int p1), .val (.ref b1), .val (.int (1 : Int32)), .val (.int (0 : Int32))] [(.ref w_BOOLEAN)])) rfl (by rw [hml]; rfl) (argsL := []) (rest := []) (lenOf pd_11 rfl) rfl (by show 2 * 0 + _ ≤ _; exact Nat.le_of_eq rfl) (hb hby at_126) rfl
    refine own_via (T' := T33) (g' := (mkF m 129 #[.val (.int p1), .val (.ref b1), .val (.int (1 : Int32)), .val (.int (0 : Int32))] [(.int (0 : Int32))])) st33 ?_
    refine own_via (T' := T33) (g' := (mkF m 130 #[.val (.int p1), .val (.ref b1), .val (.int (1 : Int32)), .val (.int (0 : Int32))] [(.int (0 : Int32)), (.int (0 : Int32))])) (fun t k => XS.iloadN X33.here hx rfl (hb hby at_129) rfl k) ?_
    refine own_via (T' := T33) (g' := (mkF m 133 #[.val (.int p1), .val (.ref b1), .val (.int (1 : Int32)), .val (.int (0 : Int32))] [])) (fun t k => XS.icmpNo X33.here hx rfl (hb hby at_130) rfl (teq rfl).2 k) ?_
    refine own_via (T' := T33) (g' := (mkF m 134 #[.val (.int p1), .val (.ref b1), .val (.int (1 : Int32)), .val (.int (0 : Int32))] [(.int (1 : Int32))])) (fun t k => XS.iconst X33.here hx rfl (hb hby at_133) k) ?_
    refine own_via (T' := T33) (g' := (mkF m 138 #[.val (.int p1), .val (.ref b1), .val (.int (1 : Int32)), .val (.int (0 : Int32))] [(.int (1 : Int32))])) (fun t k => XS.goto X33.here hx rfl (pc0 := 134) (pc' := 138) rfl (hb hby at_134) (by decide) (by decide) k) ?_
    exact own_ret (t := .boolean) X33 hx Bd.returns hlk rfl (Or.inl ⟨rfl, by simp, _, rfl⟩) (hb hby at_138) (by decide) (by decide) ⟨rfl, N⟩
  · refine own_via (T' := T29) (g' := (mkF m 106 #[.val (.int p1), .val (.ref b1), .val (.int (2 : Int32)), .unset] [])) (fun t k => XS.istoreN X29.here hx rfl (hb hby at_105) rfl (l' := #[.val (.int p1), .val (.ref b1), .val (.int (2 : Int32)), .unset]) rfl k) ?_
    refine own_via (T' := T29) (g' := (mkF m 107 #[.val (.int p1), .val (.ref b1), .val (.int (2 : Int32)), .unset] [(.int (2 : Int32))])) (fun t k => XS.iloadN X29.here hx rfl (hb hby at_106) rfl k) ?_
    refine own_via (T' := T29) (g' := (mkF m 109 #[.val (.int p1), .val (.ref b1), .val (.int (2 : Int32)), .unset] [(.int (6 : Int32)), (.int (2 : Int32))])) (fun t k => XS.bipush X29.here hx rfl (hb hby at_107) k) ?_
    refine own_via (T' := T29) (g' := (mkF m 112 #[.val (.int p1), .val (.ref b1), .val (.int (2 : Int32)), .unset] [])) (fun t k => XS.icmpNo X29.here hx rfl (hb hby at_109) rfl (flt (by decide)).2.2.1 k) ?_
    refine own_via (T' := T29) (g' := (mkF m 113 #[.val (.int p1), .val (.ref b1), .val (.int (2 : Int32)), .unset] [(.int (2 : Int32))])) (fun t k => XS.iloadN X29.here hx rfl (hb hby at_112) rfl k) ?_
    refine own_via (T' := T29) (g' := (mkF m 114 #[.val (.int p1), .val (.ref b1), .val (.int (2 : Int32)), .unset] [(.int (1 : Int32)), (.int (2 : Int32))])) (fun t k => XS.iconst X29.here hx rfl (hb hby at_113) k) ?_
    refine own_via (T' := T29) (g' := (mkF m 117 #[.val (.int p1), .val (.ref b1), .val (.int (2 : Int32)), .unset] [])) (fun t k => XS.icmpNo X29.here hx rfl (hb hby at_114) rfl (feq (by decide)).1 k) ?_
    refine own_via (T' := T29) (g' := (mkF m 118 #[.val (.int p1), .val (.ref b1), .val (.int (2 : Int32)), .unset] [(.int (1 : Int32))])) (fun t k => XS.iconst X29.here hx rfl (hb hby at_117) k) ?_
    refine own_via (T' := T29) (g' := (mkF m 122 #[.val (.int p1), .val (.ref b1), .val (.int (2 : Int32)), .unset] [(.int (1 : Int32))])) (fun t k => XS.goto X29.here hx rfl (pc0 := 118) (pc' := 122) rfl (hb hby at_118) (by decide) (by decide) k) ?_
    refine own_via (T' := T29) (g' := (mkF m 123 #[.val (.int p1), .val (.ref b1), .val (.int (2 : Int32)), .val (.int (1 : Int32))] [])) (fun t k => XS.istoreN X29.here hx rfl (hb hby at_122) rfl (l' := #[.val (.int p1), .val (.ref b1), .val (.int (2 : Int32)), .val (.int (1 : Int32))]) rfl k) ?_
    refine own_via (T' := T29) (g' := (mkF m 124 #[.val (.int p1), .val (.ref b1), .val (.int (2 : Int32)), .val (.int (1 : Int32))] [(.ref b1)])) (fun t k => XS.aloadN X29.here hx rfl (hb hby at_123) rfl rfl k) ?_
    refine own_via (T' := T29) (g' := (mkF m 125 #[.val (.int p1), .val (.ref b1), .val (.int (2 : Int32)), .val (.int (1 : Int32))] [(.int (2 : Int32)), (.ref b1)])) (fun t k => XS.iloadN X29.here hx rfl (hb hby at_124) rfl k) ?_
    obtain ⟨cl34, Ar34, q34, S34, M34, H34, G34⟩ := V_b1
    have V_b1 : Arv Z h29 b1 k1 (.object "com/example/lictor/lictor/engine/DataType") (14 : Int32) [(.ref w_STRING), (.ref w_BOOLEAN), (.ref w_INTEGER), (.ref w_DOUBLE), (.ref w_DATE), (.ref w_TIME), (.ref w_DATE_TIME), (.ref w_DAY_TIME_DURATION), (.ref w_YEAR_MONTH_DURATION), (.ref w_ANY_URI), (.ref w_HEX_BINARY), (.ref w_BASE64_BINARY), (.ref w_X500_NAME), (.ref w_RFC822_NAME)] .null := ⟨cl34, Ar34, q34, S34, M34, H34, G34⟩
    have hin34 : ¬ ((2 : Int32) < 0 ∨ cl34.slots.size ≤ ((2 : Int32)).toNatClampNeg) := inb_of S34 ⟨by decide, by decide⟩
    have hat34 : cl34.slots[((2 : Int32)).toNatClampNeg]? = some (.ref w_INTEGER) := Has.at H34 hin34 rfl
    refine own_via (T' := T29) (g' := (mkF m 126 #[.val (.int p1), .val (.ref b1), .val (.int (2 : Int32)), .val (.int (1 : Int32))] [(.ref w_INTEGER)])) (fun t k => X29.aaload hx (j := (2 : Int32)) (v := (.ref w_INTEGER)) (by rw [e29]; exact Ar34.1) (State.isArrayOf_alike hZ.alike Ar34.2.1) rfl Ar34.2.2 hin34 hat34 (g := (mkF m 125 #[.val (.int p1), .val (.ref b1), .val (.int (2 : Int32)), .val (.int (1 : Int32))] [(.int (2 : Int32)), (.ref b1)])) rfl rfl (hb hby at_125) t k) ?_
    obtain ⟨T35, X35, e35, st35⟩ := own_callV (W := 0) (r := (some (.int (1 : Int32)))) (y := (⟨"com/example/lictor/lictor/engine/DataType", "isOrdered", "()Z"⟩ : MethodName)) (z := (⟨"com/example/lictor/lictor/engine/DataType", "isOrdered", "()Z"⟩ : MethodName)) X29 hx hZ hown (hw _ (List.mem_of_getElem? (i := 33) rfl)) (hw _ (List.mem_of_getElem? (i := 34) rfl)) (notFace_of_selects (args := #[]) (mvT hZ (hw _ (List.mem_of_getElem? (i := 36) rfl)))) (hw _ (List.mem_of_getElem? (i := 36) rfl)) (hw _ (List.mem_of_getElem? (i := 35) rfl)) (by decide) (hw _ (List.mem_of_getElem? (i := 37) rfl)) (hw _ (List.mem_of_getElem? (i := 3) rfl)) (own_io l Z a0 hw w_INTEGER (2 : Int32) (1 : Int32) h29 (E_INTEGER.keep K) (O_INTEGER.keep K nin0) (by decide) (by decide)) e29 (E_INTEGER.keep K) (by decide) (by decide) (by decide) (by decide) (g := (mkF m 126 #[.val (.int p1), .val (.ref b1), .val (.int (2 : Int32)), .val (.int (1 : Int32))] [(.ref w_INTEGER)])) rfl (by rw [hml]; rfl) (argsL := []) (rest := []) (lenOf pd_11 rfl) rfl (by show 2 * 0 + _ ≤ _; exact Nat.le_of_eq rfl) (hb hby at_126) rfl
    refine own_via (T' := T35) (g' := (mkF m 129 #[.val (.int p1), .val (.ref b1), .val (.int (2 : Int32)), .val (.int (1 : Int32))] [(.int (1 : Int32))])) st35 ?_
    refine own_via (T' := T35) (g' := (mkF m 130 #[.val (.int p1), .val (.ref b1), .val (.int (2 : Int32)), .val (.int (1 : Int32))] [(.int (1 : Int32)), (.int (1 : Int32))])) (fun t k => XS.iloadN X35.here hx rfl (hb hby at_129) rfl k) ?_
    refine own_via (T' := T35) (g' := (mkF m 133 #[.val (.int p1), .val (.ref b1), .val (.int (2 : Int32)), .val (.int (1 : Int32))] [])) (fun t k => XS.icmpNo X35.here hx rfl (hb hby at_130) rfl (teq rfl).2 k) ?_
    refine own_via (T' := T35) (g' := (mkF m 134 #[.val (.int p1), .val (.ref b1), .val (.int (2 : Int32)), .val (.int (1 : Int32))] [(.int (1 : Int32))])) (fun t k => XS.iconst X35.here hx rfl (hb hby at_133) k) ?_
    refine own_via (T' := T35) (g' := (mkF m 138 #[.val (.int p1), .val (.ref b1), .val (.int (2 : Int32)), .val (.int (1 : Int32))] [(.int (1 : Int32))])) (fun t k => XS.goto X35.here hx rfl (pc0 := 134) (pc' := 138) rfl (hb hby at_134) (by decide) (by decide) k) ?_
    exact own_ret (t := .boolean) X35 hx Bd.returns hlk rfl (Or.inl ⟨rfl, by simp, _, rfl⟩) (hb hby at_138) (by decide) (by decide) ⟨rfl, N⟩
  · refine own_via (T' := T29) (g' := (mkF m 106 #[.val (.int p1), .val (.ref b1), .val (.int (3 : Int32)), .unset] [])) (fun t k => XS.istoreN X29.here hx rfl (hb hby at_105) rfl (l' := #[.val (.int p1), .val (.ref b1), .val (.int (3 : Int32)), .unset]) rfl k) ?_
    refine own_via (T' := T29) (g' := (mkF m 107 #[.val (.int p1), .val (.ref b1), .val (.int (3 : Int32)), .unset] [(.int (3 : Int32))])) (fun t k => XS.iloadN X29.here hx rfl (hb hby at_106) rfl k) ?_
    refine own_via (T' := T29) (g' := (mkF m 109 #[.val (.int p1), .val (.ref b1), .val (.int (3 : Int32)), .unset] [(.int (6 : Int32)), (.int (3 : Int32))])) (fun t k => XS.bipush X29.here hx rfl (hb hby at_107) k) ?_
    refine own_via (T' := T29) (g' := (mkF m 112 #[.val (.int p1), .val (.ref b1), .val (.int (3 : Int32)), .unset] [])) (fun t k => XS.icmpNo X29.here hx rfl (hb hby at_109) rfl (flt (by decide)).2.2.1 k) ?_
    refine own_via (T' := T29) (g' := (mkF m 113 #[.val (.int p1), .val (.ref b1), .val (.int (3 : Int32)), .unset] [(.int (3 : Int32))])) (fun t k => XS.iloadN X29.here hx rfl (hb hby at_112) rfl k) ?_
    refine own_via (T' := T29) (g' := (mkF m 114 #[.val (.int p1), .val (.ref b1), .val (.int (3 : Int32)), .unset] [(.int (1 : Int32)), (.int (3 : Int32))])) (fun t k => XS.iconst X29.here hx rfl (hb hby at_113) k) ?_
    refine own_via (T' := T29) (g' := (mkF m 117 #[.val (.int p1), .val (.ref b1), .val (.int (3 : Int32)), .unset] [])) (fun t k => XS.icmpNo X29.here hx rfl (hb hby at_114) rfl (feq (by decide)).1 k) ?_
    refine own_via (T' := T29) (g' := (mkF m 118 #[.val (.int p1), .val (.ref b1), .val (.int (3 : Int32)), .unset] [(.int (1 : Int32))])) (fun t k => XS.iconst X29.here hx rfl (hb hby at_117) k) ?_
    refine own_via (T' := T29) (g' := (mkF m 122 #[.val (.int p1), .val (.ref b1), .val (.int (3 : Int32)), .unset] [(.int (1 : Int32))])) (fun t k => XS.goto X29.here hx rfl (pc0 := 118) (pc' := 122) rfl (hb hby at_118) (by decide) (by decide) k) ?_
    refine own_via (T' := T29) (g' := (mkF m 123 #[.val (.int p1), .val (.ref b1), .val (.int (3 : Int32)), .val (.int (1 : Int32))] [])) (fun t k => XS.istoreN X29.here hx rfl (hb hby at_122) rfl (l' := #[.val (.int p1), .val (.ref b1), .val (.int (3 : Int32)), .val (.int (1 : Int32))]) rfl k) ?_
    refine own_via (T' := T29) (g' := (mkF m 124 #[.val (.int p1), .val (.ref b1), .val (.int (3 : Int32)), .val (.int (1 : Int32))] [(.ref b1)])) (fun t k => XS.aloadN X29.here hx rfl (hb hby at_123) rfl rfl k) ?_
    refine own_via (T' := T29) (g' := (mkF m 125 #[.val (.int p1), .val (.ref b1), .val (.int (3 : Int32)), .val (.int (1 : Int32))] [(.int (3 : Int32)), (.ref b1)])) (fun t k => XS.iloadN X29.here hx rfl (hb hby at_124) rfl k) ?_
    obtain ⟨cl36, Ar36, q36, S36, M36, H36, G36⟩ := V_b1
    have V_b1 : Arv Z h29 b1 k1 (.object "com/example/lictor/lictor/engine/DataType") (14 : Int32) [(.ref w_STRING), (.ref w_BOOLEAN), (.ref w_INTEGER), (.ref w_DOUBLE), (.ref w_DATE), (.ref w_TIME), (.ref w_DATE_TIME), (.ref w_DAY_TIME_DURATION), (.ref w_YEAR_MONTH_DURATION), (.ref w_ANY_URI), (.ref w_HEX_BINARY), (.ref w_BASE64_BINARY), (.ref w_X500_NAME), (.ref w_RFC822_NAME)] .null := ⟨cl36, Ar36, q36, S36, M36, H36, G36⟩
    have hin36 : ¬ ((3 : Int32) < 0 ∨ cl36.slots.size ≤ ((3 : Int32)).toNatClampNeg) := inb_of S36 ⟨by decide, by decide⟩
    have hat36 : cl36.slots[((3 : Int32)).toNatClampNeg]? = some (.ref w_DOUBLE) := Has.at H36 hin36 rfl
    refine own_via (T' := T29) (g' := (mkF m 126 #[.val (.int p1), .val (.ref b1), .val (.int (3 : Int32)), .val (.int (1 : Int32))] [(.ref w_DOUBLE)])) (fun t k => X29.aaload hx (j := (3 : Int32)) (v := (.ref w_DOUBLE)) (by rw [e29]; exact Ar36.1) (State.isArrayOf_alike hZ.alike Ar36.2.1) rfl Ar36.2.2 hin36 hat36 (g := (mkF m 125 #[.val (.int p1), .val (.ref b1), .val (.int (3 : Int32)), .val (.int (1 : Int32))] [(.int (3 : Int32)), (.ref b1)])) rfl rfl (hb hby at_125) t k) ?_
    obtain ⟨T37, X37, e37, st37⟩ := own_callV (W := 0) (r := (some (.int (1 : Int32)))) (y := (⟨"com/example/lictor/lictor/engine/DataType", "isOrdered", "()Z"⟩ : MethodName)) (z := (⟨"com/example/lictor/lictor/engine/DataType", "isOrdered", "()Z"⟩ : MethodName)) X29 hx hZ hown (hw _ (List.mem_of_getElem? (i := 33) rfl)) (hw _ (List.mem_of_getElem? (i := 34) rfl)) (notFace_of_selects (args := #[]) (mvT hZ (hw _ (List.mem_of_getElem? (i := 36) rfl)))) (hw _ (List.mem_of_getElem? (i := 36) rfl)) (hw _ (List.mem_of_getElem? (i := 35) rfl)) (by decide) (hw _ (List.mem_of_getElem? (i := 37) rfl)) (hw _ (List.mem_of_getElem? (i := 3) rfl)) (own_io l Z a0 hw w_DOUBLE (3 : Int32) (1 : Int32) h29 (E_DOUBLE.keep K) (O_DOUBLE.keep K nin0) (by decide) (by decide)) e29 (E_DOUBLE.keep K) (by decide) (by decide) (by decide) (by decide) (g := (mkF m 126 #[.val (.int p1), .val (.ref b1), .val (.int (3 : Int32)), .val (.int (1 : Int32))] [(.ref w_DOUBLE)])) rfl (by rw [hml]; rfl) (argsL := []) (rest := []) (lenOf pd_11 rfl) rfl (by show 2 * 0 + _ ≤ _; exact Nat.le_of_eq rfl) (hb hby at_126) rfl
    refine own_via (T' := T37) (g' := (mkF m 129 #[.val (.int p1), .val (.ref b1), .val (.int (3 : Int32)), .val (.int (1 : Int32))] [(.int (1 : Int32))])) st37 ?_
    refine own_via (T' := T37) (g' := (mkF m 130 #[.val (.int p1), .val (.ref b1), .val (.int (3 : Int32)), .val (.int (1 : Int32))] [(.int (1 : Int32)), (.int (1 : Int32))])) (fun t k => XS.iloadN X37.here hx rfl (hb hby at_129) rfl k) ?_
    refine own_via (T' := T37) (g' := (mkF m 133 #[.val (.int p1), .val (.ref b1), .val (.int (3 : Int32)), .val (.int (1 : Int32))] [])) (fun t k => XS.icmpNo X37.here hx rfl (hb hby at_130) rfl (teq rfl).2 k) ?_
    refine own_via (T' := T37) (g' := (mkF m 134 #[.val (.int p1), .val (.ref b1), .val (.int (3 : Int32)), .val (.int (1 : Int32))] [(.int (1 : Int32))])) (fun t k => XS.iconst X37.here hx rfl (hb hby at_133) k) ?_
    refine own_via (T' := T37) (g' := (mkF m 138 #[.val (.int p1), .val (.ref b1), .val (.int (3 : Int32)), .val (.int (1 : Int32))] [(.int (1 : Int32))])) (fun t k => XS.goto X37.here hx rfl (pc0 := 134) (pc' := 138) rfl (hb hby at_134) (by decide) (by decide) k) ?_
    exact own_ret (t := .boolean) X37 hx Bd.returns hlk rfl (Or.inl ⟨rfl, by simp, _, rfl⟩) (hb hby at_138) (by decide) (by decide) ⟨rfl, N⟩
  · refine own_via (T' := T29) (g' := (mkF m 106 #[.val (.int p1), .val (.ref b1), .val (.int (4 : Int32)), .unset] [])) (fun t k => XS.istoreN X29.here hx rfl (hb hby at_105) rfl (l' := #[.val (.int p1), .val (.ref b1), .val (.int (4 : Int32)), .unset]) rfl k) ?_
    refine own_via (T' := T29) (g' := (mkF m 107 #[.val (.int p1), .val (.ref b1), .val (.int (4 : Int32)), .unset] [(.int (4 : Int32))])) (fun t k => XS.iloadN X29.here hx rfl (hb hby at_106) rfl k) ?_
    refine own_via (T' := T29) (g' := (mkF m 109 #[.val (.int p1), .val (.ref b1), .val (.int (4 : Int32)), .unset] [(.int (6 : Int32)), (.int (4 : Int32))])) (fun t k => XS.bipush X29.here hx rfl (hb hby at_107) k) ?_
    refine own_via (T' := T29) (g' := (mkF m 112 #[.val (.int p1), .val (.ref b1), .val (.int (4 : Int32)), .unset] [])) (fun t k => XS.icmpNo X29.here hx rfl (hb hby at_109) rfl (flt (by decide)).2.2.1 k) ?_
    refine own_via (T' := T29) (g' := (mkF m 113 #[.val (.int p1), .val (.ref b1), .val (.int (4 : Int32)), .unset] [(.int (4 : Int32))])) (fun t k => XS.iloadN X29.here hx rfl (hb hby at_112) rfl k) ?_
    refine own_via (T' := T29) (g' := (mkF m 114 #[.val (.int p1), .val (.ref b1), .val (.int (4 : Int32)), .unset] [(.int (1 : Int32)), (.int (4 : Int32))])) (fun t k => XS.iconst X29.here hx rfl (hb hby at_113) k) ?_
    refine own_via (T' := T29) (g' := (mkF m 117 #[.val (.int p1), .val (.ref b1), .val (.int (4 : Int32)), .unset] [])) (fun t k => XS.icmpNo X29.here hx rfl (hb hby at_114) rfl (feq (by decide)).1 k) ?_
    refine own_via (T' := T29) (g' := (mkF m 118 #[.val (.int p1), .val (.ref b1), .val (.int (4 : Int32)), .unset] [(.int (1 : Int32))])) (fun t k => XS.iconst X29.here hx rfl (hb hby at_117) k) ?_
    refine own_via (T' := T29) (g' := (mkF m 122 #[.val (.int p1), .val (.ref b1), .val (.int (4 : Int32)), .unset] [(.int (1 : Int32))])) (fun t k => XS.goto X29.here hx rfl (pc0 := 118) (pc' := 122) rfl (hb hby at_118) (by decide) (by decide) k) ?_
    refine own_via (T' := T29) (g' := (mkF m 123 #[.val (.int p1), .val (.ref b1), .val (.int (4 : Int32)), .val (.int (1 : Int32))] [])) (fun t k => XS.istoreN X29.here hx rfl (hb hby at_122) rfl (l' := #[.val (.int p1), .val (.ref b1), .val (.int (4 : Int32)), .val (.int (1 : Int32))]) rfl k) ?_
    refine own_via (T' := T29) (g' := (mkF m 124 #[.val (.int p1), .val (.ref b1), .val (.int (4 : Int32)), .val (.int (1 : Int32))] [(.ref b1)])) (fun t k => XS.aloadN X29.here hx rfl (hb hby at_123) rfl rfl k) ?_
    refine own_via (T' := T29) (g' := (mkF m 125 #[.val (.int p1), .val (.ref b1), .val (.int (4 : Int32)), .val (.int (1 : Int32))] [(.int (4 : Int32)), (.ref b1)])) (fun t k => XS.iloadN X29.here hx rfl (hb hby at_124) rfl k) ?_
    obtain ⟨cl38, Ar38, q38, S38, M38, H38, G38⟩ := V_b1
    have V_b1 : Arv Z h29 b1 k1 (.object "com/example/lictor/lictor/engine/DataType") (14 : Int32) [(.ref w_STRING), (.ref w_BOOLEAN), (.ref w_INTEGER), (.ref w_DOUBLE), (.ref w_DATE), (.ref w_TIME), (.ref w_DATE_TIME), (.ref w_DAY_TIME_DURATION), (.ref w_YEAR_MONTH_DURATION), (.ref w_ANY_URI), (.ref w_HEX_BINARY), (.ref w_BASE64_BINARY), (.ref w_X500_NAME), (.ref w_RFC822_NAME)] .null := ⟨cl38, Ar38, q38, S38, M38, H38, G38⟩
    have hin38 : ¬ ((4 : Int32) < 0 ∨ cl38.slots.size ≤ ((4 : Int32)).toNatClampNeg) := inb_of S38 ⟨by decide, by decide⟩
    have hat38 : cl38.slots[((4 : Int32)).toNatClampNeg]? = some (.ref w_DATE) := Has.at H38 hin38 rfl
    refine own_via (T' := T29) (g' := (mkF m 126 #[.val (.int p1), .val (.ref b1), .val (.int (4 : Int32)), .val (.int (1 : Int32))] [(.ref w_DATE)])) (fun t k => X29.aaload hx (j := (4 : Int32)) (v := (.ref w_DATE)) (by rw [e29]; exact Ar38.1) (State.isArrayOf_alike hZ.alike Ar38.2.1) rfl Ar38.2.2 hin38 hat38 (g := (mkF m 125 #[.val (.int p1), .val (.ref b1), .val (.int (4 : Int32)), .val (.int (1 : Int32))] [(.int (4 : Int32)), (.ref b1)])) rfl rfl (hb hby at_125) t k) ?_
    obtain ⟨T39, X39, e39, st39⟩ := own_callV (W := 0) (r := (some (.int (1 : Int32)))) (y := (⟨"com/example/lictor/lictor/engine/DataType", "isOrdered", "()Z"⟩ : MethodName)) (z := (⟨"com/example/lictor/lictor/engine/DataType", "isOrdered", "()Z"⟩ : MethodName)) X29 hx hZ hown (hw _ (List.mem_of_getElem? (i := 33) rfl)) (hw _ (List.mem_of_getElem? (i := 34) rfl)) (notFace_of_selects (args := #[]) (mvT hZ (hw _ (List.mem_of_getElem? (i := 36) rfl)))) (hw _ (List.mem_of_getElem? (i := 36) rfl)) (hw _ (List.mem_of_getElem? (i := 35) rfl)) (by decide) (hw _ (List.mem_of_getElem? (i := 37) rfl)) (hw _ (List.mem_of_getElem? (i := 3) rfl)) (own_io l Z a0 hw w_DATE (4 : Int32) (1 : Int32) h29 (E_DATE.keep K) (O_DATE.keep K nin0) (by decide) (by decide)) e29 (E_DATE.keep K) (by decide) (by decide) (by decide) (by decide) (g := (mkF m 126 #[.val (.int p1), .val (.ref b1), .val (.int (4 : Int32)), .val (.int (1 : Int32))] [(.ref w_DATE)])) rfl (by rw [hml]; rfl) (argsL := []) (rest := []) (lenOf pd_11 rfl) rfl (by show 2 * 0 + _ ≤ _; exact Nat.le_of_eq rfl) (hb hby at_126) rfl
    refine own_via (T' := T39) (g' := (mkF m 129 #[.val (.int p1), .val (.ref b1), .val (.int (4 : Int32)), .val (.int (1 : Int32))] [(.int (1 : Int32))])) st39 ?_
    refine own_via (T' := T39) (g' := (mkF m 130 #[.val (.int p1), .val (.ref b1), .val (.int (4 : Int32)), .val (.int (1 : Int32))] [(.int (1 : Int32)), (.int (1 : Int32))])) (fun t k => XS.iloadN X39.here hx rfl (hb hby at_129) rfl k) ?_
    refine own_via (T' := T39) (g' := (mkF m 133 #[.val (.int p1), .val (.ref b1), .val (.int (4 : Int32)), .val (.int (1 : Int32))] [])) (fun t k => XS.icmpNo X39.here hx rfl (hb hby at_130) rfl (teq rfl).2 k) ?_
    refine own_via (T' := T39) (g' := (mkF m 134 #[.val (.int p1), .val (.ref b1), .val (.int (4 : Int32)), .val (.int (1 : Int32))] [(.int (1 : Int32))])) (fun t k => XS.iconst X39.here hx rfl (hb hby at_133) k) ?_
    refine own_via (T' := T39) (g' := (mkF m 138 #[.val (.int p1), .val (.ref b1), .val (.int (4 : Int32)), .val (.int (1 : Int32))] [(.int (1 : Int32))])) (fun t k => XS.goto X39.here hx rfl (pc0 := 134) (pc' := 138) rfl (hb hby at_134) (by decide) (by decide) k) ?_
    exact own_ret (t := .boolean) X39 hx Bd.returns hlk rfl (Or.inl ⟨rfl, by simp, _, rfl⟩) (hb hby at_138) (by decide) (by decide) ⟨rfl, N⟩
  · refine own_via (T' := T29) (g' := (mkF m 106 #[.val (.int p1), .val (.ref b1), .val (.int (5 : Int32)), .unset] [])) (fun t k => XS.istoreN X29.here hx rfl (hb hby at_105) rfl (l' := #[.val (.int p1), .val (.ref b1), .val (.int (5 : Int32)), .unset]) rfl k) ?_
    refine own_via (T' := T29) (g' := (mkF m 107 #[.val (.int p1), .val (.ref b1), .val (.int (5 : Int32)), .unset] [(.int (5 : Int32))])) (fun t k => XS.iloadN X29.here hx rfl (hb hby at_106) rfl k) ?_
    refine own_via (T' := T29) (g' := (mkF m 109 #[.val (.int p1), .val (.ref b1), .val (.int (5 : Int32)), .unset] [(.int (6 : Int32)), (.int (5 : Int32))])) (fun t k => XS.bipush X29.here hx rfl (hb hby at_107) k) ?_
    refine own_via (T' := T29) (g' := (mkF m 112 #[.val (.int p1), .val (.ref b1), .val (.int (5 : Int32)), .unset] [])) (fun t k => XS.icmpNo X29.here hx rfl (hb hby at_109) rfl (flt (by decide)).2.2.1 k) ?_
    refine own_via (T' := T29) (g' := (mkF m 113 #[.val (.int p1), .val (.ref b1), .val (.int (5 : Int32)), .unset] [(.int (5 : Int32))])) (fun t k => XS.iloadN X29.here hx rfl (hb hby at_112) rfl k) ?_
    refine own_via (T' := T29) (g' := (mkF m 114 #[.val (.int p1), .val (.ref b1), .val (.int (5 : Int32)), .unset] [(.int (1 : Int32)), (.int (5 : Int32))])) (fun t k => XS.iconst X29.here hx rfl (hb hby at_113) k) ?_
    refine own_via (T' := T29) (g' := (mkF m 117 #[.val (.int p1), .val (.ref b1), .val (.int (5 : Int32)), .unset] [])) (fun t k => XS.icmpNo X29.here hx rfl (hb hby at_114) rfl (feq (by decide)).1 k) ?_
    refine own_via (T' := T29) (g' := (mkF m 118 #[.val (.int p1), .val (.ref b1), .val (.int (5 : Int32)), .unset] [(.int (1 : Int32))])) (fun t k => XS.iconst X29.here hx rfl (hb hby at_117) k) ?_
    refine own_via (T' := T29) (g' := (mkF m 122 #[.val (.int p1), .val (.ref b1), .val (.int (5 : Int32)), .unset] [(.int (1 : Int32))])) (fun t k => XS.goto X29.here hx rfl (pc0 := 118) (pc' := 122) rfl (hb hby at_118) (by decide) (by decide) k) ?_
    refine own_via (T' := T29) (g' := (mkF m 123 #[.val (.int p1), .val (.ref b1), .val (.int (5 : Int32)), .val (.int (1 : Int32))] [])) (fun t k => XS.istoreN X29.here hx rfl (hb hby at_122) rfl (l' := #[.val (.int p1), .val (.ref b1), .val (.int (5 : Int32)), .val (.int (1 : Int32))]) rfl k) ?_
    refine own_via (T' := T29) (g' := (mkF m 124 #[.val (.int p1), .val (.ref b1), .val (.int (5 : Int32)), .val (.int (1 : Int32))] [(.ref b1)])) (fun t k => XS.aloadN X29.here hx rfl (hb hby at_123) rfl rfl k) ?_
    refine own_via (T' := T29) (g' := (mkF m 125 #[.val (.int p1), .val (.ref b1), .val (.int (5 : Int32)), .val (.int (1 : Int32))] [(.int (5 : Int32)), (.ref b1)])) (fun t k => XS.iloadN X29.here hx rfl (hb hby at_124) rfl k) ?_
    obtain ⟨cl40, Ar40, q40, S40, M40, H40, G40⟩ := V_b1
    have V_b1 : Arv Z h29 b1 k1 (.object "com/example/lictor/lictor/engine/DataType") (14 : Int32) [(.ref w_STRING), (.ref w_BOOLEAN), (.ref w_INTEGER), (.ref w_DOUBLE), (.ref w_DATE), (.ref w_TIME), (.ref w_DATE_TIME), (.ref w_DAY_TIME_DURATION), (.ref w_YEAR_MONTH_DURATION), (.ref w_ANY_URI), (.ref w_HEX_BINARY), (.ref w_BASE64_BINARY), (.ref w_X500_NAME), (.ref w_RFC822_NAME)] .null := ⟨cl40, Ar40, q40, S40, M40, H40, G40⟩
    have hin40 : ¬ ((5 : Int32) < 0 ∨ cl40.slots.size ≤ ((5 : Int32)).toNatClampNeg) := inb_of S40 ⟨by decide, by decide⟩
    have hat40 : cl40.slots[((5 : Int32)).toNatClampNeg]? = some (.ref w_TIME) := Has.at H40 hin40 rfl
    refine own_via (T' := T29) (g' := (mkF m 126 #[.val (.int p1), .val (.ref b1), .val (.int (5 : Int32)), .val (.int (1 : Int32))] [(.ref w_TIME)])) (fun t k => X29.aaload hx (j := (5 : Int32)) (v := (.ref w_TIME)) (by rw [e29]; exact Ar40.1) (State.isArrayOf_alike hZ.alike Ar40.2.1) rfl Ar40.2.2 hin40 hat40 (g := (mkF m 125 #[.val (.int p1), .val (.ref b1), .val (.int (5 : Int32)), .val (.int (1 : Int32))] [(.int (5 : Int32)), (.ref b1)])) rfl rfl (hb hby at_125) t k) ?_
    obtain ⟨T41, X41, e41, st41⟩ := own_callV (W := 0) (r := (some (.int (1 : Int32)))) (y := (⟨"com/example/lictor/lictor/engine/DataType", "isOrdered", "()Z"⟩ : MethodName)) (z := (⟨"com/example/lictor/lictor/engine/DataType", "isOrdered", "()Z"⟩ : MethodName)) X29 hx hZ hown (hw _ (List.mem_of_getElem? (i := 33) rfl)) (hw _ (List.mem_of_getElem? (i := 34) rfl)) (notFace_of_selects (args := #[]) (mvT hZ (hw _ (List.mem_of_getElem? (i := 36) rfl)))) (hw _ (List.mem_of_getElem? (i := 36) rfl)) (hw _ (List.mem_of_getElem? (i := 35) rfl)) (by decide) (hw _ (List.mem_of_getElem? (i := 37) rfl)) (hw _ (List.mem_of_getElem? (i := 3) rfl)) (own_io l Z a0 hw w_TIME (5 : Int32) (1 : Int32) h29 (E_TIME.keep K) (O_TIME.keep K nin0) (by decide) (by decide)) e29 (E_TIME.keep K) (by decide) (by decide) (by decide) (by decide) (g := (mkF m 126 #[.val (.int p1), .val (.ref b1), .val (.int (5 : Int32)), .val (.int (1 : Int32))] [(.ref w_TIME)])) rfl (by rw [hml]; rfl) (argsL := []) (rest := []) (lenOf pd_11 rfl) rfl (by show 2 * 0 + _ ≤ _; exact Nat.le_of_eq rfl) (hb hby at_126) rfl
    refine own_via (T' := T41) (g' := (mkF m 129 #[.val (.int p1), .val (.ref b1), .val (.int (5 : Int32)), .val (.int (1 : Int32))] [(.int (1 : Int32))])) st41 ?_
    refine own_via (T' := T41) (g' := (mkF m 130 #[.val (.int p1), .val (.ref b1), .val (.int (5 : Int32)), .val (.int (1 : Int32))] [(.int (1 : Int32)), (.int (1 : Int32))])) (fun t k => XS.iloadN X41.here hx rfl (hb hby at_129) rfl k) ?_
    refine own_via (T' := T41) (g' := (mkF m 133 #[.val (.int p1), .val (.ref b1), .val (.int (5 : Int32)), .val (.int (1 : Int32))] [])) (fun t k => XS.icmpNo X41.here hx rfl (hb hby at_130) rfl (teq rfl).2 k) ?_
    refine own_via (T' := T41) (g' := (mkF m 134 #[.val (.int p1), .val (.ref b1), .val (.int (5 : Int32)), .val (.int (1 : Int32))] [(.int (1 : Int32))])) (fun t k => XS.iconst X41.here hx rfl (hb hby at_133) k) ?_
    refine own_via (T' := T41) (g' := (mkF m 138 #[.val (.int p1), .val (.ref b1), .val (.int (5 : Int32)), .val (.int (1 : Int32))] [(.int (1 : Int32))])) (fun t k => XS.goto X41.here hx rfl (pc0 := 134) (pc' := 138) rfl (hb hby at_134) (by decide) (by decide) k) ?_
    exact own_ret (t := .boolean) X41 hx Bd.returns hlk rfl (Or.inl ⟨rfl, by simp, _, rfl⟩) (hb hby at_138) (by decide) (by decide) ⟨rfl, N⟩
  · refine own_via (T' := T29) (g' := (mkF m 106 #[.val (.int p1), .val (.ref b1), .val (.int (6 : Int32)), .unset] [])) (fun t k => XS.istoreN X29.here hx rfl (hb hby at_105) rfl (l' := #[.val (.int p1), .val (.ref b1), .val (.int (6 : Int32)), .unset]) rfl k) ?_
    refine own_via (T' := T29) (g' := (mkF m 107 #[.val (.int p1), .val (.ref b1), .val (.int (6 : Int32)), .unset] [(.int (6 : Int32))])) (fun t k => XS.iloadN X29.here hx rfl (hb hby at_106) rfl k) ?_
    refine own_via (T' := T29) (g' := (mkF m 109 #[.val (.int p1), .val (.ref b1), .val (.int (6 : Int32)), .unset] [(.int (6 : Int32)), (.int (6 : Int32))])) (fun t k => XS.bipush X29.here hx rfl (hb hby at_107) k) ?_
    refine own_via (T' := T29) (g' := (mkF m 112 #[.val (.int p1), .val (.ref b1), .val (.int (6 : Int32)), .unset] [])) (fun t k => XS.icmpNo X29.here hx rfl (hb hby at_109) rfl (flt (by decide)).2.2.1 k) ?_
    refine own_via (T' := T29) (g' := (mkF m 113 #[.val (.int p1), .val (.ref b1), .val (.int (6 : Int32)), .unset] [(.int (6 : Int32))])) (fun t k => XS.iloadN X29.here hx rfl (hb hby at_112) rfl k) ?_
    refine own_via (T' := T29) (g' := (mkF m 114 #[.val (.int p1), .val (.ref b1), .val (.int (6 : Int32)), .unset] [(.int (1 : Int32)), (.int (6 : Int32))])) (fun t k => XS.iconst X29.here hx rfl (hb hby at_113) k) ?_
    refine own_via (T' := T29) (g' := (mkF m 117 #[.val (.int p1), .val (.ref b1), .val (.int (6 : Int32)), .unset] [])) (fun t k => XS.icmpNo X29.here hx rfl (hb hby at_114) rfl (feq (by decide)).1 k) ?_
    refine own_via (T' := T29) (g' := (mkF m 118 #[.val (.int p1), .val (.ref b1), .val (.int (6 : Int32)), .unset] [(.int (1 : Int32))])) (fun t k => XS.iconst X29.here hx rfl (hb hby at_117) k) ?_
    refine own_via (T' := T29) (g' := (mkF m 122 #[.val (.int p1), .val (.ref b1), .val (.int (6 : Int32)), .unset] [(.int (1 : Int32))])) (fun t k => XS.goto X29.here hx rfl (pc0 := 118) (pc' := 122) rfl (hb hby at_118) (by decide) (by decide) k) ?_
    refine own_via (T' := T29) (g' := (mkF m 123 #[.val (.int p1), .val (.ref b1), .val (.int (6 : Int32)), .val (.int (1 : Int32))] [])) (fun t k => XS.istoreN X29.here hx rfl (hb hby at_122) rfl (l' := #[.val (.int p1), .val (.ref b1), .val (.int (6 : Int32)), .val (.int (1 : Int32))]) rfl k) ?_
    refine own_via (T' := T29) (g' := (mkF m 124 #[.val (.int p1), .val (.ref b1), .val (.int (6 : Int32)), .val (.int (1 : Int32))] [(.ref b1)])) (fun t k => XS.aloadN X29.here hx rfl (hb hby at_123) rfl rfl k) ?_
    refine own_via (T' := T29) (g' := (mkF m 125 #[.val (.int p1), .val (.ref b1), .val (.int (6 : Int32)), .val (.int (1 : Int32))] [(.int (6 : Int32)), (.ref b1)])) (fun t k => XS.iloadN X29.here hx rfl (hb hby at_124) rfl k) ?_
    obtain ⟨cl42, Ar42, q42, S42, M42, H42, G42⟩ := V_b1
    have V_b1 : Arv Z h29 b1 k1 (.object "com/example/lictor/lictor/engine/DataType") (14 : Int32) [(.ref w_STRING), (.ref w_BOOLEAN), (.ref w_INTEGER), (.ref w_DOUBLE), (.ref w_DATE), (.ref w_TIME), (.ref w_DATE_TIME), (.ref w_DAY_TIME_DURATION), (.ref w_YEAR_MONTH_DURATION), (.ref w_ANY_URI), (.ref w_HEX_BINARY), (.ref w_BASE64_BINARY), (.ref w_X500_NAME), (.ref w_RFC822_NAME)] .null := ⟨cl42, Ar42, q42, S42, M42, H42, G42⟩
    have hin42 : ¬ ((6 : Int32) < 0 ∨ cl42.slots.size ≤ ((6 : Int32)).toNatClampNeg) := inb_of S42 ⟨by decide, by decide⟩
    have hat42 : cl42.slots[((6 : Int32)).toNatClampNeg]? = some (.ref w_DATE_TIME) := Has.at H42 hin42 rfl
    refine own_via (T' := T29) (g' := (mkF m 126 #[.val (.int p1), .val (.ref b1), .val (.int (6 : Int32)), .val (.int (1 : Int32))] [(.ref w_DATE_TIME)])) (fun t k => X29.aaload hx (j := (6 : Int32)) (v := (.ref w_DATE_TIME)) (by rw [e29]; exact Ar42.1) (State.isArrayOf_alike hZ.alike Ar42.2.1) rfl Ar42.2.2 hin42 hat42 (g := (mkF m 125 #[.val (.int p1), .val (.ref b1), .val (.int (6 : Int32)), .val (.int (1 : Int32))] [(.int (6 : Int32)), (.ref b1)])) rfl rfl (hb hby at_125) t k) ?_
    obtain ⟨T43, X43, e43, st43⟩ := own_callV (W := 0) (r := (some (.int (1 : Int32)))) (y := (⟨"com/example/lictor/lictor/engine/DataType", "isOrdered", "()Z"⟩ : MethodName)) (z := (⟨"com/example/lictor/lictor/engine/DataType", "isOrdered", "()Z"⟩ : MethodName)) X29 hx hZ hown (hw _ (List.mem_of_getElem? (i := 33) rfl)) (hw _ (List.mem_of_getElem? (i := 34) rfl)) (notFace_of_selects (args := #[]) (mvT hZ (hw _ (List.mem_of_getElem? (i := 36) rfl)))) (hw _ (List.mem_of_getElem? (i := 36) rfl)) (hw _ (List.mem_of_getElem? (i := 35) rfl)) (by decide) (hw _ (List.mem_of_getElem? (i := 37) rfl)) (hw _ (List.mem_of_getElem? (i := 3) rfl)) (own_io l Z a0 hw w_DATE_TIME (6 : Int32) (1 : Int32) h29 (E_DATE_TIME.keep K) (O_DATE_TIME.keep K nin0) (by decide) (by decide)) e29 (E_DATE_TIME.keep K) (by decide) (by decide) (by decide) (by decide) (g := (mkF m 126 #[.val (.int p1), .val (.ref b1), .val (.int (6 : Int32)), .val (.int (1 : Int32))] [(.ref w_DATE_TIME)])) rfl (by rw [hml]; rfl) (argsL := []) (rest := []) (lenOf pd_11 rfl) rfl (by show 2 * 0 + _ ≤ _; exact Nat.le_of_eq rfl) (hb hby at_126) rfl
    refine own_via (T' := T43) (g' := (mkF m 129 #[.val (.int p1), .val (.ref b1), .val (.int (6 : Int32)), .val (.int (1 : Int32))] [(.int (1 : Int32))])) st43 ?_
    refine own_via (T' := T43) (g' := (mkF m 130 #[.val (.int p1), .val (.ref b1), .val (.int (6 : Int32)), .val (.int (1 : Int32))] [(.int (1 : Int32)), (.int (1 : Int32))])) (fun t k => XS.iloadN X43.here hx rfl (hb hby at_129) rfl k) ?_
    refine own_via (T' := T43) (g' := (mkF m 133 #[.val (.int p1), .val (.ref b1), .val (.int (6 : Int32)), .val (.int (1 : Int32))] [])) (fun t k => XS.icmpNo X43.here hx rfl (hb hby at_130) rfl (teq rfl).2 k) ?_
    refine own_via (T' := T43) (g' := (mkF m 134 #[.val (.int p1), .val (.ref b1), .val (.int (6 : Int32)), .val (.int (1 : Int32))] [(.int (1 : Int32))])) (fun t k => XS.iconst X43.here hx rfl (hb hby at_133) k) ?_
    refine own_via (T' := T43) (g' := (mkF m 138 #[.val (.int p1), .val (.ref b1), .val (.int (6 : Int32)), .val (.int (1 : Int32))] [(.int (1 : Int32))])) (fun t k => XS.goto X43.here hx rfl (pc0 := 134) (pc' := 138) rfl (hb hby at_134) (by decide) (by decide) k) ?_
    exact own_ret (t := .boolean) X43 hx Bd.returns hlk rfl (Or.inl ⟨rfl, by simp, _, rfl⟩) (hb hby at_138) (by decide) (by decide) ⟨rfl, N⟩
  · refine own_via (T' := T29) (g' := (mkF m 106 #[.val (.int p1), .val (.ref b1), .val (.int (7 : Int32)), .unset] [])) (fun t k => XS.istoreN X29.here hx rfl (hb hby at_105) rfl (l' := #[.val (.int p1), .val (.ref b1), .val (.int (7 : Int32)), .unset]) rfl k) ?_
    refine own_via (T' := T29) (g' := (mkF m 107 #[.val (.int p1), .val (.ref b1), .val (.int (7 : Int32)), .unset] [(.int (7 : Int32))])) (fun t k => XS.iloadN X29.here hx rfl (hb hby at_106) rfl k) ?_
    refine own_via (T' := T29) (g' := (mkF m 109 #[.val (.int p1), .val (.ref b1), .val (.int (7 : Int32)), .unset] [(.int (6 : Int32)), (.int (7 : Int32))])) (fun t k => XS.bipush X29.here hx rfl (hb hby at_107) k) ?_
    refine own_via (T' := T29) (g' := (mkF m 121 #[.val (.int p1), .val (.ref b1), .val (.int (7 : Int32)), .unset] [])) (fun t k => XS.icmpYes X29.here hx rfl (pc0 := 109) (pc' := 121) rfl (hb hby at_109) rfl (tlt (by decide)).2.2.1 (by decide) (by decide) k) ?_
    refine own_via (T' := T29) (g' := (mkF m 122 #[.val (.int p1), .val (.ref b1), .val (.int (7 : Int32)), .unset] [(.int (0 : Int32))])) (fun t k => XS.iconst X29.here hx rfl (hb hby at_121) k) ?_
    refine own_via (T' := T29) (g' := (mkF m 123 #[.val (.int p1), .val (.ref b1), .val (.int (7 : Int32)), .val (.int (0 : Int32))] [])) (fun t k => XS.istoreN X29.here hx rfl (hb hby at_122) rfl (l' := #[.val (.int p1), .val (.ref b1), .val (.int (7 : Int32)), .val (.int (0 : Int32))]) rfl k) ?_
    refine own_via (T' := T29) (g' := (mkF m 124 #[.val (.int p1), .val (.ref b1), .val (.int (7 : Int32)), .val (.int (0 : Int32))] [(.ref b1)])) (fun t k => XS.aloadN X29.here hx rfl (hb hby at_123) rfl rfl k) ?_
    refine own_via (T' := T29) (g' := (mkF m 125 #[.val (.int p1), .val (.ref b1), .val (.int (7 : Int32)), .val (.int (0 : Int32))] [(.int (7 : Int32)), (.ref b1)])) (fun t k => XS.iloadN X29.here hx rfl (hb hby at_124) rfl k) ?_
    obtain ⟨cl44, Ar44, q44, S44, M44, H44, G44⟩ := V_b1
    have V_b1 : Arv Z h29 b1 k1 (.object "com/example/lictor/lictor/engine/DataType") (14 : Int32) [(.ref w_STRING), (.ref w_BOOLEAN), (.ref w_INTEGER), (.ref w_DOUBLE), (.ref w_DATE), (.ref w_TIME), (.ref w_DATE_TIME), (.ref w_DAY_TIME_DURATION), (.ref w_YEAR_MONTH_DURATION), (.ref w_ANY_URI), (.ref w_HEX_BINARY), (.ref w_BASE64_BINARY), (.ref w_X500_NAME), (.ref w_RFC822_NAME)] .null := ⟨cl44, Ar44, q44, S44, M44, H44, G44⟩
    have hin44 : ¬ ((7 : Int32) < 0 ∨ cl44.slots.size ≤ ((7 : Int32)).toNatClampNeg) := inb_of S44 ⟨by decide, by decide⟩
    have hat44 : cl44.slots[((7 : Int32)).toNatClampNeg]? = some (.ref w_DAY_TIME_DURATION) := Has.at H44 hin44 rfl
    refine own_via (T' := T29) (g' := (mkF m 126 #[.val (.int p1), .val (.ref b1), .val (.int (7 : Int32)), .val (.int (0 : Int32))] [(.ref w_DAY_TIME_DURATION)])) (fun t k => X29.aaload hx (j := (7 : Int32)) (v := (.ref w_DAY_TIME_DURATION)) (by rw [e29]; exact Ar44.1) (State.isArrayOf_alike hZ.alike Ar44.2.1) rfl Ar44.2.2 hin44 hat44 (g := (mkF m 125 #[.val (.int p1), .val (.ref b1), .val (.int (7 : Int32)), .val (.int (0 : Int32))] [(.int (7 : Int32)), (.ref b1)])) rfl rfl (hb hby at_125) t k) ?_
    obtain ⟨T45, X45, e45, st45⟩ := own_callV (W := 0) (r := (some (.int (0 : Int32)))) (y := (⟨"com/example/lictor/lictor/engine/DataType", "isOrdered", "()Z"⟩ : MethodName)) (z := (⟨"com/example/lictor/lictor/engine/DataType", "isOrdered", "()Z"⟩ : MethodName)) X29 hx hZ hown (hw _ (List.mem_of_getElem? (i := 33) rfl)) (hw _ (List.mem_of_getElem? (i := 34) rfl)) (notFace_of_selects (args := #[]) (mvT hZ (hw _ (List.mem_of_getElem? (i := 36) rfl)))) (hw _ (List.mem_of_getElem? (i := 36) rfl)) (hw _ (List.mem_of_getElem? (i := 35) rfl)) (by decide) (hw _ (List.mem_of_getElem? (i := 37) rfl)) (hw _ (List.mem_of_getElem? (i := 3) rfl)) (own_io l Z a0 hw w_DAY_TIME_DURATION (7 : Int32) (0 : Int32) h29 (E_DAY_TIME_DURATION.keep K) (O_DAY_TIME_DURATION.keep K nin0) (by decide) (by decide)) e29 (E_DAY_TIME_DURATION.keep K) (by decide) (by decide) (by decide) (by decide) (g := (mkF m 126 #[.val (.int p1), .val (.ref b1), .val (.int (7 : Int32)), .val (.int (0 : Int32))] [(.ref w_DAY_TIME_DURATION)])) rfl (by rw [hml]; rfl) (argsL := []) (rest := []) (lenOf pd_11 rfl) rfl (by show 2 * 0 + _ ≤ _; exact Nat.le_of_eq rfl) (hb hby at_126) rfl
    refine own_via (T' := T45) (g' := (mkF m 129 #[.val (.int p1), .val (.ref b1), .val (.int (7 : Int32)), .val (.int (0 : Int32))] [(.int (0 : Int32))])) st45 ?_
    refine own_via (T' := T45) (g' := (mkF m 130 #[.val (.int p1), .val (.ref b1), .val (.int (7 : Int32)), .val (.int (0 : Int32))] [(.int (0 : Int32)), (.int (0 : Int32))])) (fun t k => XS.iloadN X45.here hx rfl (hb hby at_129) rfl k) ?_
    refine own_via (T' := T45) (g' := (mkF m 133 #[.val (.int p1), .val (.ref b1), .val (.int (7 : Int32)), .val (.int (0 : Int32))] [])) (fun t k => XS.icmpNo X45.here hx rfl (hb hby at_130) rfl (teq rfl).2 k) ?_
    refine own_via (T' := T45) (g' := (mkF m 134 #[.val (.int p1), .val (.ref b1), .val (.int (7 : Int32)), .val (.int (0 : Int32))] [(.int (1 : Int32))])) (fun t k => XS.iconst X45.here hx rfl (hb hby at_133) k) ?_
    refine own_via (T' := T45) (g' := (mkF m 138 #[.val (.int p1), .val (.ref b1), .val (.int (7 : Int32)), .val (.int (0 : Int32))] [(.int (1 : Int32))])) (fun t k => XS.goto X45.here hx rfl (pc0 := 134) (pc' := 138) rfl (hb hby at_134) (by decide) (by decide) k) ?_
    exact own_ret (t := .boolean) X45 hx Bd.returns hlk rfl (Or.inl ⟨rfl, by simp, _, rfl⟩) (hb hby at_138) (by decide) (by decide) ⟨rfl, N⟩
  · refine own_via (T' := T29) (g' := (mkF m 106 #[.val (.int p1), .val (.ref b1), .val (.int (8 : Int32)), .unset] [])) (fun t k => XS.istoreN X29.here hx rfl (hb hby at_105) rfl (l' := #[.val (.int p1), .val (.ref b1), .val (.int (8 : Int32)), .unset]) rfl k) ?_
    refine own_via (T' := T29) (g' := (mkF m 107 #[.val (.int p1), .val (.ref b1), .val (.int (8 : Int32)), .unset] [(.int (8 : Int32))])) (fun t k => XS.iloadN X29.here hx rfl (hb hby at_106) rfl k) ?_
    refine own_via (T' := T29) (g' := (mkF m 109 #[.val (.int p1), .val (.ref b1), .val (.int (8 : Int32)), .unset] [(.int (6 : Int32)), (.int (8 : Int32))])) (fun t k => XS.bipush X29.here hx rfl (hb hby at_107) k) ?_
    refine own_via (T' := T29) (g' := (mkF m 121 #[.val (.int p1), .val (.ref b1), .val (.int (8 : Int32)), .unset] [])) (fun t k => XS.icmpYes X29.here hx rfl (pc0 := 109) (pc' := 121) rfl (hb hby at_109) rfl (tlt (by decide)).2.2.1 (by decide) (by decide) k) ?_
    refine own_via (T' := T29) (g' := (mkF m 122 #[.val (.int p1), .val (.ref b1), .val (.int (8 : Int32)), .unset] [(.int (0 : Int32))])) (fun t k => XS.iconst X29.here hx rfl (hb hby at_121) k) ?_
    refine own_via (T' := T29) (g' := (mkF m 123 #[.val (.int p1), .val (.ref b1), .val (.int (8 : Int32)), .val (.int (0 : Int32))] [])) (fun t k => XS.istoreN X29.here hx rfl (hb hby at_122) rfl (l' := #[.val (.int p1), .val (.ref b1), .val (.int (8 : Int32)), .val (.int (0 : Int32))]) rfl k) ?_
    refine own_via (T' := T29) (g' := (mkF m 124 #[.val (.int p1), .val (.ref b1), .val (.int (8 : Int32)), .val (.int (0 : Int32))] [(.ref b1)])) (fun t k => XS.aloadN X29.here hx rfl (hb hby at_123) rfl rfl k) ?_
    refine own_via (T' := T29) (g' := (mkF m 125 #[.val (.int p1), .val (.ref b1), .val (.int (8 : Int32)), .val (.int (0 : Int32))] [(.int (8 : Int32)), (.ref b1)])) (fun t k => XS.iloadN X29.here hx rfl (hb hby at_124) rfl k) ?_
    obtain ⟨cl46, Ar46, q46, S46, M46, H46, G46⟩ := V_b1
    have V_b1 : Arv Z h29 b1 k1 (.object "com/example/lictor/lictor/engine/DataType") (14 : Int32) [(.ref w_STRING), (.ref w_BOOLEAN), (.ref w_INTEGER), (.ref w_DOUBLE), (.ref w_DATE), (.ref w_TIME), (.ref w_DATE_TIME), (.ref w_DAY_TIME_DURATION), (.ref w_YEAR_MONTH_DURATION), (.ref w_ANY_URI), (.ref w_HEX_BINARY), (.ref w_BASE64_BINARY), (.ref w_X500_NAME), (.ref w_RFC822_NAME)] .null := ⟨cl46, Ar46, q46, S46, M46, H46, G46⟩
    have hin46 : ¬ ((8 : Int32) < 0 ∨ cl46.slots.size ≤ ((8 : Int32)).toNatClampNeg) := inb_of S46 ⟨by decide, by decide⟩
    have hat46 : cl46.slots[((8 : Int32)).toNatClampNeg]? = some (.ref w_YEAR_MONTH_DURATION) := Has.at H46 hin46 rfl
    refine own_via (T' := T29) (g' := (mkF m 126 #[.val (.int p1), .val (.ref b1), .val (.int (8 : Int32)), .val (.int (0 : Int32))] [(.ref w_YEAR_MONTH_DURATION)])) (fun t k => X29.aaload hx (j := (8 : Int32)) (v := (.ref w_YEAR_MONTH_DURATION)) (by rw [e29]; exact Ar46.1) (State.isArrayOf_alike hZ.alike Ar46.2.1) rfl Ar46.2.2 hin46 hat46 (g := (mkF m 125 #[.val (.int p1), .val (.ref b1), .val (.int (8 : Int32)), .val (.int (0 : Int32))] [(.int (8 : Int32)), (.ref b1)])) rfl rfl (hb hby at_125) t k) ?_
    obtain ⟨T47, X47, e47, st47⟩ := own_callV (W := 0) (r := (some (.int (0 : Int32)))) (y := (⟨"com/example/lictor/lictor/engine/DataType", "isOrdered", "()Z"⟩ : MethodName)) (z := (⟨"com/example/lictor/lictor/engine/DataType", "isOrdered", "()Z"⟩ : MethodName)) X29 hx hZ hown (hw _ (List.mem_of_getElem? (i := 33) rfl)) (hw _ (List.mem_of_getElem? (i := 34) rfl)) (notFace_of_selects (args := #[]) (mvT hZ (hw _ (List.mem_of_getElem? (i := 36) rfl)))) (hw _ (List.mem_of_getElem? (i := 36) rfl)) (hw _ (List.mem_of_getElem? (i := 35) rfl)) (by decide) (hw _ (List.mem_of_getElem? (i := 37) rfl)) (hw _ (List.mem_of_getElem? (i := 3) rfl)) (own_io l Z a0 hw w_YEAR_MONTH_DURATION (8 : Int32) (0 : Int32) h29 (E_YEAR_MONTH_DURATION.keep K) (O_YEAR_MONTH_DURATION.keep K nin0) (by decide) (by decide)) e29 (E_YEAR_MONTH_DURATION.keep K) (by decide) (by decide) (by decide) (by decide) (g := (mkF m 126 #[.val (.int p1), .val (.ref b1), .val (.int (8 : Int32)), .val (.int (0 : Int32))] [(.ref w_YEAR_MONTH_DURATION)])) rfl (by rw [hml]; rfl) (argsL := []) (rest := []) (lenOf pd_11 rfl) rfl (by show 2 * 0 + _ ≤ _; exact Nat.le_of_eq rfl) (hb hby at_126) rfl
    refine own_via (T' := T47) (g' := (mkF m 129 #[.val (.int p1), .val (.ref b1), .val (.int (8 : Int32)), .val (.int (0 : Int32))] [(.int (0 : Int32))])) st47 ?_
    refine own_via (T' := T47) (g' := (mkF m 130 #[.val (.int p1), .val (.ref b1), .val (.int (8 : Int32)), .val (.int (0 : Int32))] [(.int (0 : Int32)), (.int (0 : Int32))])) (fun t k => XS.iloadN X47.here hx rfl (hb hby at_129) rfl k) ?_
    refine own_via (T' := T47) (g' := (mkF m 133 #[.val (.int p1), .val (.ref b1), .val (.int (8 : Int32)), .val (.int (0 : Int32))] [])) (fun t k => XS.icmpNo X47.here hx rfl (hb hby at_130) rfl (teq rfl).2 k) ?_
    refine own_via (T' := T47) (g' := (mkF m 134 #[.val (.int p1), .val (.ref b1), .val (.int (8 : Int32)), .val (.int (0 : Int32))] [(.int (1 : Int32))])) (fun t k => XS.iconst X47.here hx rfl (hb hby at_133) k) ?_
    refine own_via (T' := T47) (g' := (mkF m 138 #[.val (.int p1), .val (.ref b1), .val (.int (8 : Int32)), .val (.int (0 : Int32))] [(.int (1 : Int32))])) (fun t k => XS.goto X47.here hx rfl (pc0 := 134) (pc' := 138) rfl (hb hby at_134) (by decide) (by decide) k) ?_
    exact own_ret (t := .boolean) X47 hx Bd.returns hlk rfl (Or.inl ⟨rfl, by simp, _, rfl⟩) (hb hby at_138) (by decide) (by decide) ⟨rfl, N⟩
  · refine own_via (T' := T29) (g' := (mkF m 106 #[.val (.int p1), .val (.ref b1), .val (.int (9 : Int32)), .unset] [])) (fun t k => XS.istoreN X29.here hx rfl (hb hby at_105) rfl (l' := #[.val (.int p1), .val (.ref b1), .val (.int (9 : Int32)), .unset]) rfl k) ?_
    refine own_via (T' := T29) (g' := (mkF m 107 #[.val (.int p1), .val (.ref b1), .val (.int (9 : Int32)), .unset] [(.int (9 : Int32))])) (fun t k => XS.iloadN X29.here hx rfl (hb hby at_106) rfl k) ?_
    refine own_via (T' := T29) (g' := (mkF m 109 #[.val (.int p1), .val (.ref b1), .val (.int (9 : Int32)), .unset] [(.int (6 : Int32)), (.int (9 : Int32))])) (fun t k => XS.bipush X29.here hx rfl (hb hby at_107) k) ?_
    refine own_via (T' := T29) (g' := (mkF m 121 #[.val (.int p1), .val (.ref b1), .val (.int (9 : Int32)), .unset] [])) (fun t k => XS.icmpYes X29.here hx rfl (pc0 := 109) (pc' := 121) rfl (hb hby at_109) rfl (tlt (by decide)).2.2.1 (by decide) (by decide) k) ?_
    refine own_via (T' := T29) (g' := (mkF m 122 #[.val (.int p1), .val (.ref b1), .val (.int (9 : Int32)), .unset] [(.int (0 : Int32))])) (fun t k => XS.iconst X29.here hx rfl (hb hby at_121) k) ?_
    refine own_via (T' := T29) (g' := (mkF m 123 #[.val (.int p1), .val (.ref b1), .val (.int (9 : Int32)), .val (.int (0 : Int32))] [])) (fun t k => XS.istoreN X29.here hx rfl (hb hby at_122) rfl (l' := #[.val (.int p1), .val (.ref b1), .val (.int (9 : Int32)), .val (.int (0 : Int32))]) rfl k) ?_
    refine own_via (T' := T29) (g' := (mkF m 124 #[.val (.int p1), .val (.ref b1), .val (.int (9 : Int32)), .val (.int (0 : Int32))] [(.ref b1)])) (fun t k => XS.aloadN X29.here hx rfl (hb hby at_123) rfl rfl k) ?_
    refine own_via (T' := T29) (g' := (mkF m 125 #[.val (.int p1), .val (.ref b1), .val (.int (9 : Int32)), .val (.int (0 : Int32))] [(.int (9 : Int32)), (.ref b1)])) (fun t k => XS.iloadN X29.here hx rfl (hb hby at_124) rfl k) ?_
    obtain ⟨cl48, Ar48, q48, S48, M48, H48, G48⟩ := V_b1
    have V_b1 : Arv Z h29 b1 k1 (.object "com/example/lictor/lictor/engine/DataType") (14 : Int32) [(.ref w_STRING), (.ref w_BOOLEAN), (.ref w_INTEGER), (.ref w_DOUBLE), (.ref w_DATE), (.ref w_TIME), (.ref w_DATE_TIME), (.ref w_DAY_TIME_DURATION), (.ref w_YEAR_MONTH_DURATION), (.ref w_ANY_URI), (.ref w_HEX_BINARY), (.ref w_BASE64_BINARY), (.ref w_X500_NAME), (.ref w_RFC822_NAME)] .null := ⟨cl48, Ar48, q48, S48, M48, H48, G48⟩
    have hin48 : ¬ ((9 : Int32) < 0 ∨ cl48.slots.size ≤ ((9 : Int32)).toNatClampNeg) := inb_of S48 ⟨by decide, by decide⟩
    have hat48 : cl48.slots[((9 : Int32)).toNatClampNeg]? = some (.ref w_ANY_URI) := Has.at H48 hin48 rfl
    refine own_via (T' := T29) (g' := (mkF m 126 #[.val (.int p1), .val (.ref b1), .val (.int (9 : Int32)), .val (.int (0 : Int32))] [(.ref w_ANY_URI)])) (fun t k => X29.aaload hx (j := (9 : Int32)) (v := (.ref w_ANY_URI)) (by rw [e29]; exact Ar48.1) (State.isArrayOf_alike hZ.alike Ar48.2.1) rfl Ar48.2.2 hin48 hat48 (g := (mkF m 125 #[.val (.int p1), .val (.ref b1), .val (.int (9 : Int32)), .val (.int (0 : Int32))] [(.int (9 : Int32)), (.ref b1)])) rfl rfl (hb hby at_125) t k) ?_
    obtain ⟨T49, X49, e49, st49⟩ := own_callV (W := 0) (r := (some (.int (0 : Int32)))) (y := (⟨"com/example/lictor/lictor/engine/DataType", "isOrdered", "()Z"⟩ : MethodName)) (z := (⟨"com/example/lictor/lictor/engine/DataType", "isOrdered", "()Z"⟩ : MethodName)) X29 hx hZ hown (hw _ (List.mem_of_getElem? (i := 33) rfl)) (hw _ (List.mem_of_getElem? (i := 34) rfl)) (notFace_of_selects (args := #[]) (mvT hZ (hw _ (List.mem_of_getElem? (i := 36) rfl)))) (hw _ (List.mem_of_getElem? (i := 36) rfl)) (hw _ (List.mem_of_getElem? (i := 35) rfl)) (by decide) (hw _ (List.mem_of_getElem? (i := 37) rfl)) (hw _ (List.mem_of_getElem? (i := 3) rfl)) (own_io l Z a0 hw w_ANY_URI (9 : Int32) (0 : Int32) h29 (E_ANY_URI.keep K) (O_ANY_URI.keep K nin0) (by decide) (by decide)) e29 (E_ANY_URI.keep K) (by decide) (by decide) (by decide) (by decide) (g := (mkF m 126 #[.val (.int p1), .val (.ref b1), .val (.int (9 : Int32)), .val (.int (0 : Int32))] [(.ref w_ANY_URI)])) rfl (by rw [hml]; rfl) (argsL := []) (rest := []) (lenOf pd_11 rfl) rfl (by show 2 * 0 + _ ≤ _; exact Nat.le_of_eq rfl) (hb hby at_126) rfl
    refine own_via (T' := T49) (g' := (mkF m 129 #[.val (.int p1), .val (.ref b1), .val (.int (9 : Int32)), .val (.int (0 : Int32))] [(.int (0 : Int32))])) st49 ?_
    refine own_via (T' := T49) (g' := (mkF m 130 #[.val (.int p1), .val (.ref b1), .val (.int (9 : Int32)), .val (.int (0 : Int32))] [(.int (0 : Int32)), (.int (0 : Int32))])) (fun t k => XS.iloadN X49.here hx rfl (hb hby at_129) rfl k) ?_
    refine own_via (T' := T49) (g' := (mkF m 133 #[.val (.int p1), .val (.ref b1), .val (.int (9 : Int32)), .val (.int (0 : Int32))] [])) (fun t k => XS.icmpNo X49.here hx rfl (hb hby at_130) rfl (teq rfl).2 k) ?_
    refine own_via (T' := T49) (g' := (mkF m 134 #[.val (.int p1), .val (.ref b1), .val (.int (9 : Int32)), .val (.int (0 : Int32))] [(.int (1 : Int32))])) (fun t k => XS.iconst X49.here hx rfl (hb hby at_133) k) ?_
    refine own_via (T' := T49) (g' := (mkF m 138 #[.val (.int p1), .val (.ref b1), .val (.int (9 : Int32)), .val (.int (0 : Int32))] [(.int (1 : Int32))])) (fun t k => XS.goto X49.here hx rfl (pc0 := 134) (pc' := 138) rfl (hb hby at_134) (by decide) (by decide) k) ?_
    exact own_ret (t := .boolean) X49 hx Bd.returns hlk rfl (Or.inl ⟨rfl, by simp, _, rfl⟩) (hb hby at_138) (by decide) (by decide) ⟨rfl, N⟩
  · refine own_via (T' := T29) (g' := (mkF m 106 #[.val (.int p1), .val (.ref b1), .val (.int (10 : Int32)), .unset] [])) (fun t k => XS.istoreN X29.here hx rfl (hb hby at_105) rfl (l' := #[.val (.int p1), .val (.ref b1), .val (.int (10 : Int32)), .unset]) rfl k) ?_
    refine own_via (T' := T29) (g' := (mkF m 107 #[.val (.int p1), .val (.ref b1), .val (.int (10 : Int32)), .unset] [(.int (10 : Int32))])) (fun t k => XS.iloadN X29.here hx rfl (hb hby at_106) rfl k) ?_
    refine own_via (T' := T29) (g' := (mkF m 109 #[.val (.int p1), .val (.ref b1), .val (.int (10 : Int32)), .unset] [(.int (6 : Int32)), (.int (10 : Int32))])) (fun t k => XS.bipush X29.here hx rfl (hb hby at_107) k) ?_
    refine own_via (T' := T29) (g' := (mkF m 121 #[.val (.int p1), .val (.ref b1), .val (.int (10 : Int32)), .unset] [])) (fun t k => XS.icmpYes X29.here hx rfl (pc0 := 109) (pc' := 121) rfl (hb hby at_109) rfl (tlt (by decide)).2.2.1 (by decide) (by decide) k) ?_
    refine own_via (T' := T29) (g' := (mkF m 122 #[.val (.int p1), .val (.ref b1), .val (.int (10 : Int32)), .unset] [(.int (0 : Int32))])) (fun t k => XS.iconst X29.here hx rfl (hb hby at_121) k) ?_
    refine own_via (T' := T29) (g' := (mkF m 123 #[.val (.int p1), .val (.ref b1), .val (.int (10 : Int32)), .val (.int (0 : Int32))] [])) (fun t k => XS.istoreN X29.here hx rfl (hb hby at_122) rfl (l' := #[.val (.int p1), .val (.ref b1), .val (.int (10 : Int32)), .val (.int (0 : Int32))]) rfl k) ?_
    refine own_via (T' := T29) (g' := (mkF m 124 #[.val (.int p1), .val (.ref b1), .val (.int (10 : Int32)), .val (.int (0 : Int32))] [(.ref b1)])) (fun t k => XS.aloadN X29.here hx rfl (hb hby at_123) rfl rfl k) ?_
    refine own_via (T' := T29) (g' := (mkF m 125 #[.val (.int p1), .val (.ref b1), .val (.int (10 : Int32)), .val (.int (0 : Int32))] [(.int (10 : Int32)), (.ref b1)])) (fun t k => XS.iloadN X29.here hx rfl (hb hby at_124) rfl k) ?_
    obtain ⟨cl50, Ar50, q50, S50, M50, H50, G50⟩ := V_b1
    have V_b1 : Arv Z h29 b1 k1 (.object "com/example/lictor/lictor/engine/DataType") (14 : Int32) [(.ref w_STRING), (.ref w_BOOLEAN), (.ref w_INTEGER), (.ref w_DOUBLE), (.ref w_DATE), (.ref w_TIME), (.ref w_DATE_TIME), (.ref w_DAY_TIME_DURATION), (.ref w_YEAR_MONTH_DURATION), (.ref w_ANY_URI), (.ref w_HEX_BINARY), (.ref w_BASE64_BINARY), (.ref w_X500_NAME), (.ref w_RFC822_NAME)] .null := ⟨cl50, Ar50, q50, S50, M50, H50, G50⟩
    have hin50 : ¬ ((10 : Int32) < 0 ∨ cl50.slots.size ≤ ((10 : Int32)).toNatClampNeg) := inb_of S50 ⟨by decide, by decide⟩
    have hat50 : cl50.slots[((10 : Int32)).toNatClampNeg]? = some (.ref w_HEX_BINARY) := Has.at H50 hin50 rfl
    refine own_via (T' := T29) (g' := (mkF m 126 #[.val (.int p1), .val (.ref b1), .val (.int (10 : Int32)), .val (.int (0 : Int32))] [(.ref w_HEX_BINARY)])) (fun t k => X29.aaload hx (j := (10 : Int32)) (v := (.ref w_HEX_BINARY)) (by rw [e29]; exact Ar50.1) (State.isArrayOf_alike hZ.alike Ar50.2.1) rfl Ar50.2.2 hin50 hat50 (g := (mkF m 125 #[.val (.int p1), .val (.ref b1), .val (.int (10 : Int32)), .val (.int (0 : Int32))] [(.int (10 : Int32)), (.ref b1)])) rfl rfl (hb hby at_125) t k) ?_
    obtain ⟨T51, X51, e51, st51⟩ := own_callV (W := 0) (r := (some (.int (0 : Int32)))) (y := (⟨"com/example/lictor/lictor/engine/DataType", "isOrdered", "()Z"⟩ : MethodName)) (z := (⟨"com/example/lictor/lictor/engine/DataType", "isOrdered", "()Z"⟩ : MethodName)) X29 hx hZ hown (hw _ (List.mem_of_getElem? (i := 33) rfl)) (hw _ (List.mem_of_getElem? (i := 34) rfl)) (notFace_of_selects (args := #[]) (mvT hZ (hw _ (List.mem_of_getElem? (i := 36) rfl)))) (hw _ (List.mem_of_getElem? (i := 36) rfl)) (hw _ (List.mem_of_getElem? (i := 35) rfl)) (by decide) (hw _ (List.mem_of_getElem? (i := 37) rfl)) (hw _ (List.mem_of_getElem? (i := 3) rfl)) (own_io l Z a0 hw w_HEX_BINARY (10 : Int32) (0 : Int32) h29 (E_HEX_BINARY.keep K) (O_HEX_BINARY.keep K nin0) (by decide) (by decide)) e29 (E_HEX_BINARY.keep K) (by decide) (by decide) (by decide) (by decide) (g := (mkF m 126 #[.val (.int p1), .val (.ref b1), .val (.int (10 : Int32)), .val (.int (0 : Int32))] [(.ref w_HEX_BINARY)])) rfl (by rw [hml]; rfl) (argsL := []) (rest := []) (lenOf pd_11 rfl) rfl (by show 2 * 0 + _ ≤ _; exact Nat.le_of_eq rfl) (hb hby at_126) rfl
    refine own_via (T' := T51) (g' := (mkF m 129 #[.val (.int p1), .val (.ref b1), .val (.int (10 : Int32)), .val (.int (0 : Int32))] [(.int (0 : Int32))])) st51 ?_
    refine own_via (T' := T51) (g' := (mkF m 130 #[.val (.int p1), .val (.ref b1), .val (.int (10 : Int32)), .val (.int (0 : Int32))] [(.int (0 : Int32)), (.int (0 : Int32))])) (fun t k => XS.iloadN X51.here hx rfl (hb hby at_129) rfl k) ?_
    refine own_via (T' := T51) (g' := (mkF m 133 #[.val (.int p1), .val (.ref b1), .val (.int (10 : Int32)), .val (.int (0 : Int32))] [])) (fun t k => XS.icmpNo X51.here hx rfl (hb hby at_130) rfl (teq rfl).2 k) ?_
    refine own_via (T' := T51) (g' := (mkF m 134 #[.val (.int p1), .val (.ref b1), .val (.int (10 : Int32)), .val (.int (0 : Int32))] [(.int (1 : Int32))])) (fun t k => XS.iconst X51.here hx rfl (hb hby at_133) k) ?_
    refine own_via (T' := T51) (g' := (mkF m 138 #[.val (.int p1), .val (.ref b1), .val (.int (10 : Int32)), .val (.int (0 : Int32))] [(.int (1 : Int32))])) (fun t k => XS.goto X51.here hx rfl (pc0 := 134) (pc' := 138) rfl (hb hby at_134) (by decide) (by decide) k) ?_
    exact own_ret (t := .boolean) X51 hx Bd.returns hlk rfl (Or.inl ⟨rfl, by simp, _, rfl⟩) (hb hby at_138) (by decide) (by decide) ⟨rfl, N⟩
  · refine own_via (T' := T29) (g' := (mkF m 106 #[.val (.int p1), .val (.ref b1), .val (.int (11 : Int32)), .unset] [])) (fun t k => XS.istoreN X29.here hx rfl (hb hby at_105) rfl (l' := #[.val (.int p1), .val (.ref b1), .val (.int (11 : Int32)), .unset]) rfl k) ?_
    refine own_via (T' := T29) (g' := (mkF m 107 #[.val (.int p1), .val (.ref b1), .val (.int (11 : Int32)), .unset] [(.int (11 : Int32))])) (fun t k => XS.iloadN X29.here hx rfl (hb hby at_106) rfl k) ?_
    refine own_via (T' := T29) (g' := (mkF m 109 #[.val (.int p1), .val (.ref b1), .val (.int (11 : Int32)), .unset] [(.int (6 : Int32)), (.int (11 : Int32))])) (fun t k => XS.bipush X29.here hx rfl (hb hby at_107) k) ?_
    refine own_via (T' := T29) (g' := (mkF m 121 #[.val (.int p1), .val (.ref b1), .val (.int (11 : Int32)), .unset] [])) (fun t k => XS.icmpYes X29.here hx rfl (pc0 := 109) (pc' := 121) rfl (hb hby at_109) rfl (tlt (by decide)).2.2.1 (by decide) (by decide) k) ?_
    refine own_via (T' := T29) (g' := (mkF m 122 #[.val (.int p1), .val (.ref b1), .val (.int (11 : Int32)), .unset] [(.int (0 : Int32))])) (fun t k => XS.iconst X29.here hx rfl (hb hby at_121) k) ?_
    refine own_via (T' := T29) (g' := (mkF m 123 #[.val (.int p1), .val (.ref b1), .val (.int (11 : Int32)), .val (.int (0 : Int32))] [])) (fun t k => XS.istoreN X29.here hx rfl (hb hby at_122) rfl (l' := #[.val (.int p1), .val (.ref b1), .val (.int (11 : Int32)), .val (.int (0 : Int32))]) rfl k) ?_
    refine own_via (T' := T29) (g' := (mkF m 124 #[.val (.int p1), .val (.ref b1), .val (.int (11 : Int32)), .val (.int (0 : Int32))] [(.ref b1)])) (fun t k => XS.aloadN X29.here hx rfl (hb hby at_123) rfl rfl k) ?_
    refine own_via (T' := T29) (g' := (mkF m 125 #[.val (.int p1), .val (.ref b1), .val (.int (11 : Int32)), .val (.int (0 : Int32))] [(.int (11 : Int32)), (.ref b1)])) (fun t k => XS.iloadN X29.here hx rfl (hb hby at_124) rfl k) ?_
    obtain ⟨cl52, Ar52, q52, S52, M52, H52, G52⟩ := V_b1
    have V_b1 : Arv Z h29 b1 k1 (.object "com/example/lictor/lictor/engine/DataType") (14 : Int32) [(.ref w_STRING), (.ref w_BOOLEAN), (.ref w_INTEGER), (.ref w_DOUBLE), (.ref w_DATE), (.ref w_TIME), (.ref w_DATE_TIME), (.ref w_DAY_TIME_DURATION), (.ref w_YEAR_MONTH_DURATION), (.ref w_ANY_URI), (.ref w_HEX_BINARY), (.ref w_BASE64_BINARY), (.ref w_X500_NAME), (.ref w_RFC822_NAME)] .null := ⟨cl52, Ar52, q52, S52, M52, H52, G52⟩
    have hin52 : ¬ ((11 : Int32) < 0 ∨ cl52.slots.size ≤ ((11 : Int32)).toNatClampNeg) := inb_of S52 ⟨by decide, by decide⟩
    have hat52 : cl52.slots[((11 : Int32)).toNatClampNeg]? = some (.ref w_BASE64_BINARY) := Has.at H52 hin52 rfl
    refine own_via (T' := T29) (g' := (mkF m 126 #[.val (.int p1), .val (.ref b1), .val (.int (11 : Int32)), .val (.int (0 : Int32))] [(.ref w_BASE64_BINARY)])) (fun t k => X29.aaload hx (j := (11 : Int32)) (v := (.ref w_BASE64_BINARY)) (by rw [e29]; exact Ar52.1) (State.isArrayOf_alike hZ.alike Ar52.2.1) rfl Ar52.2.2 hin52 hat52 (g := (mkF m 125 #[.val (.int p1), .val (.ref b1), .val (.int (11 : Int32)), .val (.int (0 : Int32))] [(.int (11 : Int32)), (.ref b1)])) rfl rfl (hb hby at_125) t k) ?_
    obtain ⟨T53, X53, e53, st53⟩ := own_callV (W := 0) (r := (some (.int (0 : Int32)))) (y := (⟨"com/example/lictor/lictor/engine/DataType", "isOrdered", "()Z"⟩ : MethodName)) (z := (⟨"com/example/lictor/lictor/engine/DataType", "isOrdered", "()Z"⟩ : MethodName)) X29 hx hZ hown (hw _ (List.mem_of_getElem? (i := 33) rfl)) (hw _ (List.mem_of_getElem? (i := 34) rfl)) (notFace_of_selects (args := #[]) (mvT hZ (hw _ (List.mem_of_getElem? (i := 36) rfl)))) (hw _ (List.mem_of_getElem? (i := 36) rfl)) (hw _ (List.mem_of_getElem? (i := 35) rfl)) (by decide) (hw _ (List.mem_of_getElem? (i := 37) rfl)) (hw _ (List.mem_of_getElem? (i := 3) rfl)) (own_io l Z a0 hw w_BASE64_BINARY (11 : Int32) (0 : Int32) h29 (E_BASE64_BINARY.keep K) (O_BASE64_BINARY.keep K nin0) (by decide) (by decide)) e29 (E_BASE64_BINARY.keep K) (by decide) (by decide) (by decide) (by decide) (g := (mkF m 126 #[.val (.int p1), .val (.ref b1), .val (.int (11 : Int32)), .val (.int (0 : Int32))] [(.ref w_BASE64_BINARY)])) rfl (by rw [hml]; rfl) (argsL := []) (rest := []) (lenOf pd_11 rfl) rfl (by show 2 * 0 + _ ≤ _; exact Nat.le_of_eq rfl) (hb hby at_126) rfl
    refine own_via (T' := T53) (g' := (mkF m 129 #[.val (.int p1), .val (.ref b1), .val (.int (11 : Int32)), .val (.int (0 : Int32))] [(.int (0 : Int32))])) st53 ?_
    refine own_via (T' := T53) (g' := (mkF m 130 #[.val (.int p1), .val (.ref b1), .val (.int (11 : Int32)), .val (.int (0 : Int32))] [(.int (0 : Int32)), (.int (0 : Int32))])) (fun t k => XS.iloadN X53.here hx rfl (hb hby at_129) rfl k) ?_
    refine own_via (T' := T53) (g' := (mkF m 133 #[.val (.int p1), .val (.ref b1), .val (.int (11 : Int32)), .val (.int (0 : Int32))] [])) (fun t k => XS.icmpNo X53.here hx rfl (hb hby at_130) rfl (teq rfl).2 k) ?_
    refine own_via (T' := T53) (g' := (mkF m 134 #[.val (.int p1), .val (.ref b1), .val (.int (11 : Int32)), .val (.int (0 : Int32))] [(.int (1 : Int32))])) (fun t k => XS.iconst X53.here hx rfl (hb hby at_133) k) ?_
    refine own_via (T' := T53) (g' := (mkF m 138 #[.val (.int p1), .val (.ref b1), .val (.int (11 : Int32)), .val (.int (0 : Int32))] [(.int (1 : Int32))])) (fun t k => XS.goto X53.here hx rfl (pc0 := 134) (pc' := 138) rfl (hb hby at_134) (by decide) (by decide) k) ?_
    exact own_ret (t := .boolean) X53 hx Bd.returns hlk rfl (Or.inl ⟨rfl, by simp, _, rfl⟩) (hb hby at_138) (by decide) (by decide) ⟨rfl, N⟩
  · refine own_via (T' := T29) (g' := (mkF m 106 #[.val (.int p1), .val (.ref b1), .val (.int (12 : Int32)), .unset] [])) (fun t k => XS.istoreN X29.here hx rfl (hb hby at_105) rfl (l' := #[.val (.int p1), .val (.ref b1), .val (.int (12 : Int32)), .unset]) rfl k) ?_
    refine own_via (T' := T29) (g' := (mkF m 107 #[.val (.int p1), .val (.ref b1), .val (.int (12 : Int32)), .unset] [(.int (12 : Int32))])) (fun t k => XS.iloadN X29.here hx rfl (hb hby at_106) rfl k) ?_
    refine own_via (T' := T29) (g' := (mkF m 109 #[.val (.int p1), .val (.ref b1), .val (.int (12 : Int32)), .unset] [(.int (6 : Int32)), (.int (12 : Int32))])) (fun t k => XS.bipush X29.here hx rfl (hb hby at_107) k) ?_
    refine own_via (T' := T29) (g' := (mkF m 121 #[.val (.int p1), .val (.ref b1), .val (.int (12 : Int32)), .unset] [])) (fun t k => XS.icmpYes X29.here hx rfl (pc0 := 109) (pc' := 121) rfl (hb hby at_109) rfl (tlt (by decide)).2.2.1 (by decide) (by decide) k) ?_
    refine own_via (T' := T29) (g' := (mkF m 122 #[.val (.int p1), .val (.ref b1), .val (.int (12 : Int32)), .unset] [(.int (0 : Int32))])) (fun t k => XS.iconst X29.here hx rfl (hb hby at_121) k) ?_
    refine own_via (T' := T29) (g' := (mkF m 123 #[.val (.int p1), .val (.ref b1), .val (.int (12 : Int32)), .val (.int (0 : Int32))] [])) (fun t k => XS.istoreN X29.here hx rfl (hb hby at_122) rfl (l' := #[.val (.int p1), .val (.ref b1), .val (.int (12 : Int32)), .val (.int (0 : Int32))]) rfl k) ?_
    refine own_via (T' := T29) (g' := (mkF m 124 #[.val (.int p1), .val (.ref b1), .val (.int (12 : Int32)), .val (.int (0 : Int32))] [(.ref b1)])) (fun t k => XS.aloadN X29.here hx rfl (hb hby at_123) rfl rfl k) ?_
    refine own_via (T' := T29) (g' := (mkF m 125 #[.val (.int p1), .val (.ref b1), .val (.int (12 : Int32)), .val (.int (0 : Int32))] [(.int (12 : Int32)), (.ref b1)])) (fun t k => XS.iloadN X29.here hx rfl (hb hby at_124) rfl k) ?_
    obtain ⟨cl54, Ar54, q54, S54, M54, H54, G54⟩ := V_b1
    have V_b1 : Arv Z h29 b1 k1 (.object "com/example/lictor/lictor/engine/DataType") (14 : Int32) [(.ref w_STRING), (.ref w_BOOLEAN), (.ref w_INTEGER), (.ref w_DOUBLE), (.ref w_DATE), (.ref w_TIME), (.ref w_DATE_TIME), (.ref w_DAY_TIME_DURATION), (.ref w_YEAR_MONTH_DURATION), (.ref w_ANY_URI), (.ref w_HEX_BINARY), (.ref w_BASE64_BINARY), (.ref w_X500_NAME), (.ref w_RFC822_NAME)] .null := ⟨cl54, Ar54, q54, S54, M54, H54, G54⟩
    have hin54 : ¬ ((12 : Int32) < 0 ∨ cl54.slots.size ≤ ((12 : Int32)).toNatClampNeg) := inb_of S54 ⟨by decide, by decide⟩
    have hat54 : cl54.slots[((12 : Int32)).toNatClampNeg]? = some (.ref w_X500_NAME) := Has.at H54 hin54 rfl
    refine own_via (T' := T29) (g' := (mkF m 126 #[.val (.int p1), .val (.ref b1), .val (.int (12 : Int32)), .val (.int (0 : Int32))] [(.ref w_X500_NAME)])) (fun t k => X29.aaload hx (j := (12 : Int32)) (v := (.ref w_X500_NAME)) (by rw [e29]; exact Ar54.1) (State.isArrayOf_alike hZ.alike Ar54.2.1) rfl Ar54.2.2 hin54 hat54 (g := (mkF m 125 #[.val (.int p1), .val (.ref b1), .val (.int (12 : Int32)), .val (.int (0 : Int32))] [(.int (12 : Int32)), (.ref b1)])) rfl rfl (hb hby at_125) t k) ?_
    obtain ⟨T55, X55, e55, st55⟩ := own_callV (W := 0) (r := (some (.int (0 : Int32)))) (y := (⟨"com/example/lictor/lictor/engine/DataType", "isOrdered", "()Z"⟩ : MethodName)) (z := (⟨"com/example/lictor/lictor/engine/DataType", "isOrdered", "()Z"⟩ : MethodName)) X29 hx hZ hown (hw _ (List.mem_of_getElem? (i := 33) rfl)) (hw _ (List.mem_of_getElem? (i := 34) rfl)) (notFace_of_selects (args := #[]) (mvT hZ (hw _ (List.mem_of_getElem? (i := 36) rfl)))) (hw _ (List.mem_of_getElem? (i := 36) rfl)) (hw _ (List.mem_of_getElem? (i := 35) rfl)) (by decide) (hw _ (List.mem_of_getElem? (i := 37) rfl)) (hw _ (List.mem_of_getElem? (i := 3) rfl)) (own_io l Z a0 hw w_X500_NAME (12 : Int32) (0 : Int32) h29 (E_X500_NAME.keep K) (O_X500_NAME.keep K nin0) (by decide) (by decide)) e29 (E_X500_NAME.keep K) (by decide) (by decide) (by decide) (by decide) (g := (mkF m 126 #[.val (.int p1), .val (.ref b1), .val (.int (12 : Int32)), .val (.int (0 : Int32))] [(.ref w_X500_NAME)])) rfl (by rw [hml]; rfl) (argsL := []) (rest := []) (lenOf pd_11 rfl) rfl (by show 2 * 0 + _ ≤ _; exact Nat.le_of_eq rfl) (hb hby at_126) rfl
    refine own_via (T' := T55) (g' := (mkF m 129 #[.val (.int p1), .val (.ref b1), .val (.int (12 : Int32)), .val (.int (0 : Int32))] [(.int (0 : Int32))])) st55 ?_
    refine own_via (T' := T55) (g' := (mkF m 130 #[.val (.int p1), .val (.ref b1), .val (.int (12 : Int32)), .val (.int (0 : Int32))] [(.int (0 : Int32)), (.int (0 : Int32))])) (fun t k => XS.iloadN X55.here hx rfl (hb hby at_129) rfl k) ?_
    refine own_via (T' := T55) (g' := (mkF m 133 #[.val (.int p1), .val (.ref b1), .val (.int (12 : Int32)), .val (.int (0 : Int32))] [])) (fun t k => XS.icmpNo X55.here hx rfl (hb hby at_130) rfl (teq rfl).2 k) ?_
    refine own_via (T' := T55) (g' := (mkF m 134 #[.val (.int p1), .val (.ref b1), .val (.int (12 : Int32)), .val (.int (0 : Int32))] [(.int (1 : Int32))])) (fun t k => XS.iconst X55.here hx rfl (hb hby at_133) k) ?_
    refine own_via (T' := T55) (g' := (mkF m 138 #[.val (.int p1), .val (.ref b1), .val (.int (12 : Int32)), .val (.int (0 : Int32))] [(.int (1 : Int32))])) (fun t k => XS.goto X55.here hx rfl (pc0 := 134) (pc' := 138) rfl (hb hby at_134) (by decide) (by decide) k) ?_
    exact own_ret (t := .boolean) X55 hx Bd.returns hlk rfl (Or.inl ⟨rfl, by simp, _, rfl⟩) (hb hby at_138) (by decide) (by decide) ⟨rfl, N⟩
  · refine own_via (T' := T29) (g' := (mkF m 106 #[.val (.int p1), .val (.ref b1), .val (.int (13 : Int32)), .unset] [])) (fun t k => XS.istoreN X29.here hx rfl (hb hby at_105) rfl (l' := #[.val (.int p1), .val (.ref b1), .val (.int (13 : Int32)), .unset]) rfl k) ?_
    refine own_via (T' := T29) (g' := (mkF m 107 #[.val (.int p1), .val (.ref b1), .val (.int (13 : Int32)), .unset] [(.int (13 : Int32))])) (fun t k => XS.iloadN X29.here hx rfl (hb hby at_106) rfl k) ?_
    refine own_via (T' := T29) (g' := (mkF m 109 #[.val (.int p1), .val (.ref b1), .val (.int (13 : Int32)), .unset] [(.int (6 : Int32)), (.int (13 : Int32))])) (fun t k => XS.bipush X29.here hx rfl (hb hby at_107) k) ?_
    refine own_via (T' := T29) (g' := (mkF m 121 #[.val (.int p1), .val (.ref b1), .val (.int (13 : Int32)), .unset] [])) (fun t k => XS.icmpYes X29.here hx rfl (pc0 := 109) (pc' := 121) rfl (hb hby at_109) rfl (tlt (by decide)).2.2.1 (by decide) (by decide) k) ?_
    refine own_via (T' := T29) (g' := (mkF m 122 #[.val (.int p1), .val (.ref b1), .val (.int (13 : Int32)), .unset] [(.int (0 : Int32))])) (fun t k => XS.iconst X29.here hx rfl (hb hby at_121) k) ?_
    refine own_via (T' := T29) (g' := (mkF m 123 #[.val (.int p1), .val (.ref b1), .val (.int (13 : Int32)), .val (.int (0 : Int32))] [])) (fun t k => XS.istoreN X29.here hx rfl (hb hby at_122) rfl (l' := #[.val (.int p1), .val (.ref b1), .val (.int (13 : Int32)), .val (.int (0 : Int32))]) rfl k) ?_
    refine own_via (T' := T29) (g' := (mkF m 124 #[.val (.int p1), .val (.ref b1), .val (.int (13 : Int32)), .val (.int (0 : Int32))] [(.ref b1)])) (fun t k => XS.aloadN X29.here hx rfl (hb hby at_123) rfl rfl k) ?_
    refine own_via (T' := T29) (g' := (mkF m 125 #[.val (.int p1), .val (.ref b1), .val (.int (13 : Int32)), .val (.int (0 : Int32))] [(.int (13 : Int32)), (.ref b1)])) (fun t k => XS.iloadN X29.here hx rfl (hb hby at_124) rfl k) ?_
    obtain ⟨cl56, Ar56, q56, S56, M56, H56, G56⟩ := V_b1
    have V_b1 : Arv Z h29 b1 k1 (.object "com/example/lictor/lictor/engine/DataType") (14 : Int32) [(.ref w_STRING), (.ref w_BOOLEAN), (.ref w_INTEGER), (.ref w_DOUBLE), (.ref w_DATE), (.ref w_TIME), (.ref w_DATE_TIME), (.ref w_DAY_TIME_DURATION), (.ref w_YEAR_MONTH_DURATION), (.ref w_ANY_URI), (.ref w_HEX_BINARY), (.ref w_BASE64_BINARY), (.ref w_X500_NAME), (.ref w_RFC822_NAME)] .null := ⟨cl56, Ar56, q56, S56, M56, H56, G56⟩
    have hin56 : ¬ ((13 : Int32) < 0 ∨ cl56.slots.size ≤ ((13 : Int32)).toNatClampNeg) := inb_of S56 ⟨by decide, by decide⟩
    have hat56 : cl56.slots[((13 : Int32)).toNatClampNeg]? = some (.ref w_RFC822_NAME) := Has.at H56 hin56 rfl
    refine own_via (T' := T29) (g' := (mkF m 126 #[.val (.int p1), .val (.ref b1), .val (.int (13 : Int32)), .val (.int (0 : Int32))] [(.ref w_RFC822_NAME)])) (fun t k => X29.aaload hx (j := (13 : Int32)) (v := (.ref w_RFC822_NAME)) (by rw [e29]; exact Ar56.1) (State.isArrayOf_alike hZ.alike Ar56.2.1) rfl Ar56.2.2 hin56 hat56 (g := (mkF m 125 #[.val (.int p1), .val (.ref b1), .val (.int (13 : Int32)), .val (.int (0 : Int32))] [(.int (13 : Int32)), (.ref b1)])) rfl rfl (hb hby at_125) t k) ?_
    obtain ⟨T57, X57, e57, st57⟩ := own_callV (W := 0) (r := (some (.int (0 : Int32)))) (y := (⟨"com/example/lictor/lictor/engine/DataType", "isOrdered", "()Z"⟩ : MethodName)) (z := (⟨"com/example/lictor/lictor/engine/DataType", "isOrdered", "()Z"⟩ : MethodName)) X29 hx hZ hown (hw _ (List.mem_of_getElem? (i := 33) rfl)) (hw _ (List.mem_of_getElem? (i := 34) rfl)) (notFace_of_selects (args := #[]) (mvT hZ (hw _ (List.mem_of_getElem? (i := 36) rfl)))) (hw _ (List.mem_of_getElem? (i := 36) rfl)) (hw _ (List.mem_of_getElem? (i := 35) rfl)) (by decide) (hw _ (List.mem_of_getElem? (i := 37) rfl)) (hw _ (List.mem_of_getElem? (i := 3) rfl)) (own_io l Z a0 hw w_RFC822_NAME (13 : Int32) (0 : Int32) h29 (E_RFC822_NAME.keep K) (O_RFC822_NAME.keep K nin0) (by decide) (by decide)) e29 (E_RFC822_NAME.keep K) (by decide) (by decide) (by decide) (by decide) (g := (mkF m 126 #[.val (.int p1), .val (.ref b1), .val (.int (13 : Int32)), .val (.int (0 : Int32))] [(.ref w_RFC822_NAME)])) rfl (by rw [hml]; rfl) (argsL := []) (rest := []) (lenOf pd_11 rfl) rfl (by show 2 * 0 + _ ≤ _; exact Nat.le_of_eq rfl) (hb hby at_126) rfl
    refine own_via (T' := T57) (g' := (mkF m 129 #[.val (.int p1), .val (.ref b1), .val (.int (13 : Int32)), .val (.int (0 : Int32))] [(.int (0 : Int32))])) st57 ?_
    refine own_via (T' := T57) (g' := (mkF m 130 #[.val (.int p1), .val (.ref b1), .val (.int (13 : Int32)), .val (.int (0 : Int32))] [(.int (0 : Int32)), (.int (0 : Int32))])) (fun t k => XS.iloadN X57.here hx rfl (hb hby at_129) rfl k) ?_
    refine own_via (T' := T57) (g' := (mkF m 133 #[.val (.int p1), .val (.ref b1), .val (.int (13 : Int32)), .val (.int (0 : Int32))] [])) (fun t k => XS.icmpNo X57.here hx rfl (hb hby at_130) rfl (teq rfl).2 k) ?_
    refine own_via (T' := T57) (g' := (mkF m 134 #[.val (.int p1), .val (.ref b1), .val (.int (13 : Int32)), .val (.int (0 : Int32))] [(.int (1 : Int32))])) (fun t k => XS.iconst X57.here hx rfl (hb hby at_133) k) ?_
    refine own_via (T' := T57) (g' := (mkF m 138 #[.val (.int p1), .val (.ref b1), .val (.int (13 : Int32)), .val (.int (0 : Int32))] [(.int (1 : Int32))])) (fun t k => XS.goto X57.here hx rfl (pc0 := 134) (pc' := 138) rfl (hb hby at_134) (by decide) (by decide) k) ?_
    exact own_ret (t := .boolean) X57 hx Bd.returns hlk rfl (Or.inl ⟨rfl, by simp, _, rfl⟩) (hb hby at_138) (by decide) (by decide) ⟨rfl, N⟩
set_option maxRecDepth 65536 in
set_option maxHeartbeats 40000000 in
theorem comes_1 {Post : Tables → Env → Array Value → State → Outcome → State → Prop} (hpost : ∀ tb e args s v u, (limb_1_1.after args s (.returned v) u = true ∧ limb_1_2.after args s (.returned v) u = true ∧ True) → FrameEnd s (.returned v) u (Jvm.fieldLocs frame_1_writes args s ++ Jvm.arrayLocs frame_1_arrays args s ++ Jvm.staticLocs frame_1_statics s) 16 128 → Post tb e args s (.returned v) u) :
    ArmFor flags0 classFile x code maxLocals ret World_1 tables_1 room_1 Calls_1 rest_1 Pre_1 Post := by
  intro l hfl _ _ p e ha hc hk s m args below hf hA hF happ hP
  obtain ⟨hcalls, hrest, hpre⟩ := hP
  obtain ⟨-, -, -, hnamed, -, -, -, hat⟩ := (Spec.applies_iff hf).mp happ
  obtain ⟨hg, hn⟩ := and_e (Cond.before_iff.mp (show (Jvm.Cond.and given_1 narrow_1).before args s = true from hpre))
  obtain ⟨g1a, g1b⟩ := and_e hg
  obtain ⟨w0, rfl⟩ : ∃ w0 : Value, args = #[w0] := by
    have hs : args.size = 1 := by simpa [Cond.value, given_1] using g1a
    obtain ⟨L⟩ := args
    match L, hs with
    | [w0], _ => exact ⟨w0, rfl⟩
  have hw := fun d (hd : d ∈ tables_1) => atoms_spec (ws := Jvm.Cond.code x code maxLocals ret :: tables_1) hat d (List.mem_cons_of_mem _ hd)
  have hfit : Fit s := fun {y c} hc i hi => by
    obtain ⟨ha, rfl⟩ := Array.getElem?_eq_some_iff.mp hc
    have q := List.all_eq_true.mp ((Array.all_eq_true_iff_forall_mem.mp hF) _ (Array.getElem_mem ha)) i (List.mem_range.mpr hi)
    simpa [Array.getElem?_eq_getElem hi] using q
  obtain ⟨i0, ei0⟩ := is_v g1b
  obtain rfl : w0 = (.int i0) := Option.some.inj ei0
  obtain ⟨g2a, g2b⟩ := and_e hn
  obtain ⟨g3a, g3b⟩ := and_e g2b
  obtain ⟨g4a, g4b⟩ := and_e g3b
  obtain ⟨g5a, g5b⟩ := and_e g4b
  obtain ⟨g6a, g6b⟩ := and_e g5b
  obtain ⟨g7a, g7b⟩ := and_e g6b
  obtain ⟨g8a, g8b⟩ := and_e g7b
  obtain ⟨g9a, g9b⟩ := and_e g8b
  obtain ⟨g10a, g10b⟩ := and_e g9b
  obtain ⟨g11a, g11b⟩ := and_e g10b
  obtain ⟨g12a, g12b⟩ := and_e g11b
  obtain ⟨g13a, g13b⟩ := and_e g12b
  obtain ⟨g14a, g14b⟩ := and_e g13b
  obtain ⟨g15a, g15b⟩ := and_e g14b
  obtain ⟨g16a, g16b⟩ := and_e g15b
  obtain ⟨g17a, g17b⟩ := and_e g16b
  obtain ⟨g18a, g18b⟩ := and_e g17b
  obtain ⟨g19a, g19b⟩ := and_e g18b
  obtain ⟨g20a, g20b⟩ := and_e g19b
  obtain ⟨g21a, g21b⟩ := and_e g20b
  obtain ⟨g22a, g22b⟩ := and_e g21b
  obtain ⟨g23a, g23b⟩ := and_e g22b
  obtain ⟨g24a, g24b⟩ := and_e g23b
  obtain ⟨g25a, g25b⟩ := and_e g24b
  obtain ⟨g26a, g26b⟩ := and_e g25b
  obtain ⟨g27a, g27b⟩ := and_e g26b
  obtain ⟨g28a, g28b⟩ := and_e g27b
  obtain ⟨w_STRING, ev_STRING⟩ := exa_v g2a
  have E_STRING := Exa.start ev_STRING g2a
  have S_STRING := Sta.start ev_STRING (Or.inr ⟨(hw _ (List.mem_of_getElem? (i := 3) rfl)), (hw _ (List.mem_of_getElem? (i := 4) rfl))⟩)
  obtain ⟨w_BOOLEAN, ev_BOOLEAN⟩ := exa_v g3a
  have E_BOOLEAN := Exa.start ev_BOOLEAN g3a
  have S_BOOLEAN := Sta.start ev_BOOLEAN (Or.inr ⟨(hw _ (List.mem_of_getElem? (i := 3) rfl)), (hw _ (List.mem_of_getElem? (i := 7) rfl))⟩)
  obtain ⟨w_INTEGER, ev_INTEGER⟩ := exa_v g4a
  have E_INTEGER := Exa.start ev_INTEGER g4a
  have S_INTEGER := Sta.start ev_INTEGER (Or.inr ⟨(hw _ (List.mem_of_getElem? (i := 3) rfl)), (hw _ (List.mem_of_getElem? (i := 9) rfl))⟩)
  obtain ⟨w_DOUBLE, ev_DOUBLE⟩ := exa_v g5a
  have E_DOUBLE := Exa.start ev_DOUBLE g5a
  have S_DOUBLE := Sta.start ev_DOUBLE (Or.inr ⟨(hw _ (List.mem_of_getElem? (i := 3) rfl)), (hw _ (List.mem_of_getElem? (i := 11) rfl))⟩)
  obtain ⟨w_DATE, ev_DATE⟩ := exa_v g6a
  have E_DATE := Exa.start ev_DATE g6a
  have S_DATE := Sta.start ev_DATE (Or.inr ⟨(hw _ (List.mem_of_getElem? (i := 3) rfl)), (hw _ (List.mem_of_getElem? (i := 13) rfl))⟩)
  obtain ⟨w_TIME, ev_TIME⟩ := exa_v g7a
  have E_TIME := Exa.start ev_TIME g7a
  have S_TIME := Sta.start ev_TIME (Or.inr ⟨(hw _ (List.mem_of_getElem? (i := 3) rfl)), (hw _ (List.mem_of_getElem? (i := 15) rfl))⟩)
  obtain ⟨w_DATE_TIME, ev_DATE_TIME⟩ := exa_v g8a
  have E_DATE_TIME := Exa.start ev_DATE_TIME g8a
  have S_DATE_TIME := Sta.start ev_DATE_TIME (Or.inr ⟨(hw _ (List.mem_of_getElem? (i := 3) rfl)), (hw _ (List.mem_of_getElem? (i := 17) rfl))⟩)
  obtain ⟨w_DAY_TIME_DURATION, ev_DAY_TIME_DURATION⟩ := exa_v g9a
  have E_DAY_TIME_DURATION := Exa.start ev_DAY_TIME_DURATION g9a
  have S_DAY_TIME_DURATION := Sta.start ev_DAY_TIME_DURATION (Or.inr ⟨(hw _ (List.mem_of_getElem? (i := 3) rfl)), (hw _ (List.mem_of_getElem? (i := 19) rfl))⟩)
  obtain ⟨w_YEAR_MONTH_DURATION, ev_YEAR_MONTH_DURATION⟩ := exa_v g10a
  have E_YEAR_MONTH_DURATION := Exa.start ev_YEAR_MONTH_DURATION g10a
  have S_YEAR_MONTH_DURATION := Sta.start ev_YEAR_MONTH_DURATION (Or.inr ⟨(hw _ (List.mem_of_getElem? (i := 3) rfl)), (hw _ (List.mem_of_getElem? (i := 21) rfl))⟩)
  obtain ⟨w_ANY_URI, ev_ANY_URI⟩ := exa_v g11a
  have E_ANY_URI := Exa.start ev_ANY_URI g11a
  have S_ANY_URI := Sta.start ev_ANY_URI (Or.inr ⟨(hw _ (List.mem_of_getElem? (i := 3) rfl)), (hw _ (List.mem_of_getElem? (i := 23) rfl))⟩)
  obtain ⟨w_HEX_BINARY, ev_HEX_BINARY⟩ := exa_v g12a
  have E_HEX_BINARY := Exa.start ev_HEX_BINARY g12a
  have S_HEX_BINARY := Sta.start ev_HEX_BINARY (Or.inr ⟨(hw _ (List.mem_of_getElem? (i := 3) rfl)), (hw _ (List.mem_of_getElem? (i := 25) rfl))⟩)
  obtain ⟨w_BASE64_BINARY, ev_BASE64_BINARY⟩ := exa_v g13a
  have E_BASE64_BINARY := Exa.start ev_BASE64_BINARY g13a
  have S_BASE64_BINARY := Sta.start ev_BASE64_BINARY (Or.inr ⟨(hw _ (List.mem_of_getElem? (i := 3) rfl)), (hw _ (List.mem_of_getElem? (i := 27) rfl))⟩)
  obtain ⟨w_X500_NAME, ev_X500_NAME⟩ := exa_v g14a
  have E_X500_NAME := Exa.start ev_X500_NAME g14a
  have S_X500_NAME := Sta.start ev_X500_NAME (Or.inr ⟨(hw _ (List.mem_of_getElem? (i := 3) rfl)), (hw _ (List.mem_of_getElem? (i := 29) rfl))⟩)
  obtain ⟨w_RFC822_NAME, ev_RFC822_NAME⟩ := exa_v g15a
  have E_RFC822_NAME := Exa.start ev_RFC822_NAME g15a
  have S_RFC822_NAME := Sta.start ev_RFC822_NAME (Or.inr ⟨(hw _ (List.mem_of_getElem? (i := 3) rfl)), (hw _ (List.mem_of_getElem? (i := 31) rfl))⟩)
  have O_STRING := own_fld g16a ev_STRING
  have O_DOUBLE := own_fld g17a ev_DOUBLE
  have O_X500_NAME := own_fld g18a ev_X500_NAME
  have O_RFC822_NAME := own_fld g19a ev_RFC822_NAME
  have O_DATE := own_fld g20a ev_DATE
  have O_DAY_TIME_DURATION := own_fld g21a ev_DAY_TIME_DURATION
  have O_INTEGER := own_fld g22a ev_INTEGER
  have O_BASE64_BINARY := own_fld g23a ev_BASE64_BINARY
  have O_HEX_BINARY := own_fld g24a ev_HEX_BINARY
  have O_YEAR_MONTH_DURATION := own_fld g25a ev_YEAR_MONTH_DURATION
  have O_BOOLEAN := own_fld g26a ev_BOOLEAN
  have O_ANY_URI := own_fld g27a ev_ANY_URI
  have O_TIME := own_fld g28a ev_TIME
  have O_DATE_TIME := own_fld g28b ev_DATE_TIME
  obtain ⟨n, o, h1, h2, h3, _, L, rfl, hQ, hq⟩ := own_c0 l s _ hw i0 w_STRING w_BOOLEAN w_INTEGER w_DOUBLE w_DATE w_TIME w_DATE_TIME w_DAY_TIME_DURATION w_YEAR_MONTH_DURATION w_ANY_URI w_HEX_BINARY w_BASE64_BINARY w_X500_NAME w_RFC822_NAME s.heap S_STRING E_STRING O_STRING S_BOOLEAN E_BOOLEAN O_BOOLEAN S_INTEGER E_INTEGER O_INTEGER S_DOUBLE E_DOUBLE O_DOUBLE S_DATE E_DATE O_DATE S_TIME E_TIME O_TIME S_DATE_TIME E_DATE_TIME O_DATE_TIME S_DAY_TIME_DURATION E_DAY_TIME_DURATION O_DAY_TIME_DURATION S_YEAR_MONTH_DURATION E_YEAR_MONTH_DURATION O_YEAR_MONTH_DURATION S_ANY_URI E_ANY_URI O_ANY_URI S_HEX_BINARY E_HEX_BINARY O_HEX_BINARY S_BASE64_BINARY E_BASE64_BINARY O_BASE64_BINARY S_X500_NAME E_X500_NAME O_X500_NAME S_RFC822_NAME E_RFC822_NAME O_RFC822_NAME p e ha hc hk s m _ below hf ((Spec.applies_iff_loose hf).mp happ).1 ⟨rfl, State.Warmed39.refl s, rfl⟩ trivial
  obtain ⟨rfl, N⟩ := own_fin hQ
  refine ⟨n, _, h1, h2, h3, hpost _ _ _ _ _ _ ⟨Cond.after_iff.mpr rfl, Cond.after_iff.mpr (eq_i res_at (Term.int_eval (1)) rfl), trivial⟩ ⟨hq.1, hq.2.1, (hq.2.2.sift fun y hy => Or.inr (N y hy)).mono (by decide) (by decide)⟩⟩
theorem main_1_1 : Claimed_1_1 := comes_1 fun _ _ _ _ _ _ h hF => ⟨h.1, hF⟩
theorem main_1_2 : Claimed_1_2 := comes_1 fun _ _ _ _ _ _ h hF => ⟨h.2.1, hF⟩
end Jvm.Pilot.@@N@@
namespace Jvm.Pilot.@@N@@
open Jvm Jvm.ClassFile Sem Op Lib Jvm.Free Jvm.Stand Jvm.Pilot.@@N@@.Jvm.D
/-! MADE BY PROGRAM (witnessworld.py) out of the Statement's table words and the real class files: 13 classes; the members and pool entries that the words name. The judged class is class 1, her method 1. -/
namespace start1
open Jvm.ClassFile
def u (s : String) : CpInfo := .utf8 (stringToUtf16 s)
/-- a pool by its gaps: so many unusable entries, then the entry; so many at the end -/
def gap : Nat → List CpInfo → List CpInfo
  | 0, r => r
  | n + 1, r => .unusable :: gap n r
def poolList (es : List (Nat × CpInfo)) (last : Nat) : List CpInfo := es.foldr (fun e r => gap e.1 (e.2 :: r)) (gap last [])
def pool (es : List (Nat × CpInfo)) (last : Nat) : Array CpInfo := ⟨poolList es last⟩
def fileOf (pool : Array CpInfo) (this : Nat) (attrs : Array Attribute := #[]) (ms : Array MethodInfo := #[]) (fl : Nat := 33) (sup : Nat := 0) (ifs : Array Nat := #[]) (fds : Array FieldInfo := #[]) : ClassFile where
  minorVersion := 0
  majorVersion := 65
  constantPool := pool
  accessFlags := fl
  thisClass := this
  superClass := sup
  interfaces := ifs
  fields := fds
  methods := ms
  attributes := attrs
def plain (name : String) (sup : Option ClassId) : Class where
  name := name
  kind := .ordinary
  loader := none
  accessFlags := 33
  super := sup
  interfaces := #[]
  cf := none
  fields := #[]
  methods := #[]
  instanceTypes := #[]
  staticTypes := #[]
  resolved := #[]
  callSites := []
  init := .initialized
  statics := none
  mirror := none

def pool0 : Array CpInfo := pool [(5, u "<init>"), (0, u "()V"), (1, .class_ 10), (1, u "java/lang/Object")] 113

def k0m0 : Method := { name := "<init>", desc := "()V", sig := { parameters := [], returnType := none }, accessFlags := 1, code := none }
/-- java/lang/Object -/
def k0 : Class := { plain "java/lang/Object" none with
  accessFlags := 33
  interfaces := #[]
  cf := some (fileOf pool0 8 #[] #[{ accessFlags := 1, nameIndex := 5, descriptorIndex := 6, attributes := #[] }] 33 0 #[] #[])
  fields := #[]
  methods := #[k0m0]
  instanceTypes := #[]
  staticTypes := #[]
  resolved := Array.replicate 124 none
  statics := none }

def pool1 : Array CpInfo := pool [(2, .class_ 4), (1, u "java/lang/Object"), (0, u "<init>"), (0, u "()V"), (0, .class_ 8), (0, u "com/example/lictor/lictor/engine/DataType"), (0, .fieldref 7 10), (0, .nameAndType 11 12), (0, u "STRING"), (0, u "Lcom/example/lictor/lictor/engine/DataType;"), (0, .fieldref 7 14), (0, .nameAndType 15 12), (0, u "BOOLEAN"), (0, .fieldref 7 17), (0, .nameAndType 18 12), (0, u "INTEGER"), (0, .fieldref 7 20), (0, .nameAndType 21 12), (0, u "DOUBLE"), (0, .fieldref 7 23), (0, .nameAndType 24 12), (0, u "DATE"), (0, .fieldref 7 26), (0, .nameAndType 27 12), (0, u "TIME"), (0, .fieldref 7 29), (0, .nameAndType 30 12), (0, u "DATE_TIME"), (0, .fieldref 7 32), (0, .nameAndType 33 12), (0, u "DAY_TIME_DURATION"), (0, .fieldref 7 35), (0, .nameAndType 36 12), (0, u "YEAR_MONTH_DURATION"), (0, .fieldref 7 38), (0, .nameAndType 39 12), (0, u "ANY_URI"), (0, .fieldref 7 41), (0, .nameAndType 42 12), (0, u "HEX_BINARY"), (0, .fieldref 7 44), (0, .nameAndType 45 12), (0, u "BASE64_BINARY"), (0, .fieldref 7 47), (0, .nameAndType 48 12), (0, u "X500_NAME"), (0, .fieldref 7 50), (0, .nameAndType 51 12), (0, u "RFC822_NAME"), (0, .integer 2147483647), (0, .methodref 7 54), (0, .nameAndType 55 56), (0, u "isOrdered"), (0, u "()Z"), (0, .class_ 58), (0, u "com/example/lictor/lictor/engine/DataTypeIsOrderedPinLaw"), (2, u "law"), (0, u "(I)Z")] 5

def k1m0 : Method := { name := "<init>", desc := "()V", sig := { parameters := [], returnType := none }, accessFlags := 1, code := none }
def k1c1 : Code := { maxStack := 4, maxLocals := 4, code := code, exceptionTable := #[], attributes := #[] }
def k1m1 : Method := { name := "law", desc := "(I)Z", sig := { parameters := [.int], returnType := some .boolean }, accessFlags := 9, code := some k1c1 }
/-- com/example/lictor/lictor/engine/DataTypeIsOrderedPinLaw -/
def k1 : Class := { plain "com/example/lictor/lictor/engine/DataTypeIsOrderedPinLaw" (some 0) with
  accessFlags := 49
  interfaces := #[]
  cf := some (fileOf pool1 57 #[] #[{ accessFlags := 1, nameIndex := 5, descriptorIndex := 6, attributes := #[] }, { accessFlags := 9, nameIndex := 61, descriptorIndex := 62, attributes := #[] }] 49 2 #[] #[])
  fields := #[]
  methods := #[k1m0, k1m1]
  instanceTypes := #[]
  staticTypes := #[]
  resolved := Array.replicate 68 none
  statics := none }

def pool2 : Array CpInfo := pool [(1, .class_ 2), (0, u "java/lang/constant/Constable"), (0, .class_ 4), (0, u "java/lang/Object")] 6

/-- java/lang/constant/Constable -/
def k2 : Class := { plain "java/lang/constant/Constable" (some 0) with
  accessFlags := 1537
  interfaces := #[]
  cf := some (fileOf pool2 1 #[] #[] 1537 3 #[] #[])
  fields := #[]
  methods := #[]
  instanceTypes := #[]
  staticTypes := #[]
  resolved := Array.replicate 11 none
  statics := none }

def pool3 : Array CpInfo := pool [(1, .class_ 2), (0, u "java/lang/Comparable"), (0, .class_ 4), (0, u "java/lang/Object")] 7

/-- java/lang/Comparable -/
def k3 : Class := { plain "java/lang/Comparable" (some 0) with
  accessFlags := 1537
  interfaces := #[]
  cf := some (fileOf pool3 1 #[] #[] 1537 3 #[] #[])
  fields := #[]
  methods := #[]
  instanceTypes := #[]
  staticTypes := #[]
  resolved := Array.replicate 12 none
  statics := none }

def pool4 : Array CpInfo := pool [(1, .class_ 2), (0, u "java/io/Serializable"), (0, .class_ 4), (0, u "java/lang/Object")] 2

/-- java/io/Serializable -/
def k4 : Class := { plain "java/io/Serializable" (some 0) with
  accessFlags := 1537
  interfaces := #[]
  cf := some (fileOf pool4 1 #[] #[] 1537 3 #[] #[])
  fields := #[]
  methods := #[]
  instanceTypes := #[]
  staticTypes := #[]
  resolved := Array.replicate 7 none
  statics := none }

def pool5 : Array CpInfo := pool [(2, .class_ 4), (1, u "java/lang/Enum"), (0, u "name"), (0, u "Ljava/lang/String;"), (0, .fieldref 2 8), (0, .nameAndType 9 10), (0, u "ordinal"), (0, u "I"), (1, .class_ 14), (1, u "java/lang/Object"), (4, u "hash"), (86, .class_ 108), (1, u "java/lang/Enum$EnumDesc"), (2, .class_ 112), (0, u "java/lang/constant/Constable"), (0, .class_ 114), (0, u "java/lang/Comparable"), (0, .class_ 116), (0, u "java/io/Serializable"), (9, u "()I")] 77

def k5c0 : Code := { maxStack := 1, maxLocals := 1, code := jdk_37_method_2_code, exceptionTable := #[], attributes := #[] }
def k5m0 : Method := { name := "ordinal", desc := "()I", sig := { parameters := [], returnType := some .int }, accessFlags := 17, code := some k5c0 }
/-- java/lang/Enum -/
def k5 : Class := { plain "java/lang/Enum" (some 0) with
  accessFlags := 1057
  interfaces := #[2, 3, 4]
  cf := some (fileOf pool5 2 #[.nestMembers #[106]] #[{ accessFlags := 17, nameIndex := 9, descriptorIndex := 126, attributes := #[] }] 1057 12 #[111, 113, 115] #[{ accessFlags := 18, nameIndex := 5, descriptorIndex := 6, attributes := #[] }, { accessFlags := 18, nameIndex := 9, descriptorIndex := 10, attributes := #[] }, { accessFlags := 2, nameIndex := 19, descriptorIndex := 10, attributes := #[] }])
  fields := #[{ name := "name", type := (.object "java/lang/String"), accessFlags := 18, slot := 0, constantValue := 0 }, { name := "ordinal", type := .int, accessFlags := 18, slot := 1, constantValue := 0 }, { name := "hash", type := .int, accessFlags := 2, slot := 2, constantValue := 0 }]
  methods := #[k5m0]
  instanceTypes := #[(.object "java/lang/String"), .int, .int]
  staticTypes := #[]
  resolved := Array.replicate 204 none
  statics := none }

def pool6 : Array CpInfo := pool [(1, .class_ 2), (0, u "com/example/lictor/lictor/engine/DataType"), (2, u "STRING"), (0, u "Lcom/example/lictor/lictor/engine/DataType;"), (2, u "BOOLEAN"), (2, u "INTEGER"), (2, u "DOUBLE"), (2, u "DATE"), (2, u "TIME"), (2, u "DATE_TIME"), (2, u "DAY_TIME_DURATION"), (2, u "YEAR_MONTH_DURATION"), (2, u "ANY_URI"), (2, u "HEX_BINARY"), (2, u "BASE64_BINARY"), (2, u "X500_NAME"), (2, u "RFC822_NAME"), (2, u "$VALUES"), (0, u "[Lcom/example/lictor/lictor/engine/DataType;"), (6, .class_ 58), (1, u "java/lang/Enum"), (8, u "uri"), (0, u "Ljava/lang/String;"), (39, .methodref 1 109), (0, .nameAndType 110 111), (0, u "ordinal"), (0, u "()I"), (14, u "INTEGER_TEXT"), (0, u "Ljava/util/regex/Pattern;"), (16, u "DOUBLE_TEXT"), (6, u "DATE_TEXT"), (6, u "TIME_TEXT"), (5, u "DATE_TIME_TEXT"), (5, u "DAY_TIME_TEXT"), (6, u "YEAR_MONTH_TEXT"), (6, u "HEX_TEXT"), (24, u "XML_SPACE_RUN"), (75, u "POSITIVE_ZERO"), (0, u "Ljava/lang/Double;"), (87, u "()Z"), (184, .class_ 560), (0, u "com/example/lictor/lictor/engine/DataType$Uris"), (69, u "DATE_PART"), (3, u "TIME_PART"), (2, u "ZONE_PART"), (2, u "SECONDS_PER_DAY"), (0, u "J"), (0, u "MAXIMUM_ZONE_MINUTES"), (0, u "I"), (1, u "MAXIMUM_INTEGER_DIGITS"), (1, u "MAXIMUM_X500_NAME_RDNS"), (0, u "QUOTED_CHARACTERS"), (9, u "isOrdered")] 40

def k6c0 : Code := { maxStack := 1, maxLocals := 1, code := prog_35_method_7_code, exceptionTable := #[], attributes := #[] }
def k6m0 : Method := { name := "isOrdered", desc := "()Z", sig := { parameters := [], returnType := some .boolean }, accessFlags := 0, code := some k6c0 }
/-- com/example/lictor/lictor/engine/DataType -/
def k6 : Class := { plain "com/example/lictor/lictor/engine/DataType" (some 5) with
  accessFlags := 16432
  interfaces := #[]
  cf := some (fileOf pool6 1 #[.nestMembers #[559]] #[{ accessFlags := 0, nameIndex := 658, descriptorIndex := 374, attributes := #[] }] 16432 56 #[] #[{ accessFlags := 16409, nameIndex := 5, descriptorIndex := 6, attributes := #[] }, { accessFlags := 16409, nameIndex := 9, descriptorIndex := 6, attributes := #[] }, { accessFlags := 16409, nameIndex := 12, descriptorIndex := 6, attributes := #[] }, { accessFlags := 16409, nameIndex := 15, descriptorIndex := 6, attributes := #[] }, { accessFlags := 16409, nameIndex := 18, descriptorIndex := 6, attributes := #[] }, { accessFlags := 16409, nameIndex := 21, descriptorIndex := 6, attributes := #[] }, { accessFlags := 16409, nameIndex := 24, descriptorIndex := 6, attributes := #[] }, { accessFlags := 16409, nameIndex := 27, descriptorIndex := 6, attributes := #[] }, { accessFlags := 16409, nameIndex := 30, descriptorIndex := 6, attributes := #[] }, { accessFlags := 16409, nameIndex := 33, descriptorIndex := 6, attributes := #[] }, { accessFlags := 16409, nameIndex := 36, descriptorIndex := 6, attributes := #[] }, { accessFlags := 16409, nameIndex := 39, descriptorIndex := 6, attributes := #[] }, { accessFlags := 16409, nameIndex := 42, descriptorIndex := 6, attributes := #[] }, { accessFlags := 16409, nameIndex := 45, descriptorIndex := 6, attributes := #[] }, { accessFlags := 26, nameIndex := 126, descriptorIndex := 127, attributes := #[] }, { accessFlags := 26, nameIndex := 144, descriptorIndex := 127, attributes := #[] }, { accessFlags := 26, nameIndex := 630, descriptorIndex := 68, attributes := #[] }, { accessFlags := 26, nameIndex := 634, descriptorIndex := 68, attributes := #[] }, { accessFlags := 26, nameIndex := 637, descriptorIndex := 68, attributes := #[] }, { accessFlags := 26, nameIndex := 151, descriptorIndex := 127, attributes := #[] }, { accessFlags := 26, nameIndex := 158, descriptorIndex := 127, attributes := #[] }, { accessFlags := 26, nameIndex := 164, descriptorIndex := 127, attributes := #[] }, { accessFlags := 26, nameIndex := 170, descriptorIndex := 127, attributes := #[] }, { accessFlags := 26, nameIndex := 177, descriptorIndex := 127, attributes := #[] }, { accessFlags := 26, nameIndex := 184, descriptorIndex := 127, attributes := #[] }, { accessFlags := 26, nameIndex := 209, descriptorIndex := 127, attributes := #[] }, { accessFlags := 26, nameIndex := 640, descriptorIndex := 641, attributes := #[] }, { accessFlags := 26, nameIndex := 642, descriptorIndex := 643, attributes := #[] }, { accessFlags := 26, nameIndex := 645, descriptorIndex := 643, attributes := #[] }, { accessFlags := 26, nameIndex := 647, descriptorIndex := 643, attributes := #[] }, { accessFlags := 26, nameIndex := 648, descriptorIndex := 643, attributes := #[] }, { accessFlags := 26, nameIndex := 285, descriptorIndex := 286, attributes := #[] }, { accessFlags := 18, nameIndex := 67, descriptorIndex := 68, attributes := #[] }, { accessFlags := 4122, nameIndex := 48, descriptorIndex := 49, attributes := #[] }])
  fields := #[{ name := "STRING", type := (.object "com/example/lictor/lictor/engine/DataType"), accessFlags := 16409, slot := 0, constantValue := 0 }, { name := "BOOLEAN", type := (.object "com/example/lictor/lictor/engine/DataType"), accessFlags := 16409, slot := 1, constantValue := 0 }, { name := "INTEGER", type := (.object "com/example/lictor/lictor/engine/DataType"), accessFlags := 16409, slot := 2, constantValue := 0 }, { name := "DOUBLE", type := (.object "com/example/lictor/lictor/engine/DataType"), accessFlags := 16409, slot := 3, constantValue := 0 }, { name := "DATE", type := (.object "com/example/lictor/lictor/engine/DataType"), accessFlags := 16409, slot := 4, constantValue := 0 }, { name := "TIME", type := (.object "com/example/lictor/lictor/engine/DataType"), accessFlags := 16409, slot := 5, constantValue := 0 }, { name := "DATE_TIME", type := (.object "com/example/lictor/lictor/engine/DataType"), accessFlags := 16409, slot := 6, constantValue := 0 }, { name := "DAY_TIME_DURATION", type := (.object "com/example/lictor/lictor/engine/DataType"), accessFlags := 16409, slot := 7, constantValue := 0 }, { name := "YEAR_MONTH_DURATION", type := (.object "com/example/lictor/lictor/engine/DataType"), accessFlags := 16409, slot := 8, constantValue := 0 }, { name := "ANY_URI", type := (.object "com/example/lictor/lictor/engine/DataType"), accessFlags := 16409, slot := 9, constantValue := 0 }, { name := "HEX_BINARY", type := (.object "com/example/lictor/lictor/engine/DataType"), accessFlags := 16409, slot := 10, constantValue := 0 }, { name := "BASE64_BINARY", type := (.object "com/example/lictor/lictor/engine/DataType"), accessFlags := 16409, slot := 11, constantValue := 0 }, { name := "X500_NAME", type := (.object "com/example/lictor/lictor/engine/DataType"), accessFlags := 16409, slot := 12, constantValue := 0 }, { name := "RFC822_NAME", type := (.object "com/example/lictor/lictor/engine/DataType"), accessFlags := 16409, slot := 13, constantValue := 0 }, { name := "INTEGER_TEXT", type := (.object "java/util/regex/Pattern"), accessFlags := 26, slot := 14, constantValue := 0 }, { name := "DOUBLE_TEXT", type := (.object "java/util/regex/Pattern"), accessFlags := 26, slot := 15, constantValue := 0 }, { name := "DATE_PART", type := (.object "java/lang/String"), accessFlags := 26, slot := 16, constantValue := 0 }, { name := "TIME_PART", type := (.object "java/lang/String"), accessFlags := 26, slot := 17, constantValue := 0 }, { name := "ZONE_PART", type := (.object "java/lang/String"), accessFlags := 26, slot := 18, constantValue := 0 }, { name := "DATE_TEXT", type := (.object "java/util/regex/Pattern"), accessFlags := 26, slot := 19, constantValue := 0 }, { name := "TIME_TEXT", type := (.object "java/util/regex/Pattern"), accessFlags := 26, slot := 20, constantValue := 0 }, { name := "DATE_TIME_TEXT", type := (.object "java/util/regex/Pattern"), accessFlags := 26, slot := 21, constantValue := 0 }, { name := "DAY_TIME_TEXT", type := (.object "java/util/regex/Pattern"), accessFlags := 26, slot := 22, constantValue := 0 }, { name := "YEAR_MONTH_TEXT", type := (.object "java/util/regex/Pattern"), accessFlags := 26, slot := 23, constantValue := 0 }, { name := "HEX_TEXT", type := (.object "java/util/regex/Pattern"), accessFlags := 26, slot := 24, constantValue := 0 }, { name := "XML_SPACE_RUN", type := (.object "java/util/regex/Pattern"), accessFlags := 26, slot := 25, constantValue := 0 }, { name := "SECONDS_PER_DAY", type := .long, accessFlags := 26, slot := 26, constantValue := 0 }, { name := "MAXIMUM_ZONE_MINUTES", type := .int, accessFlags := 26, slot := 27, constantValue := 0 }, { name := "MAXIMUM_INTEGER_DIGITS", type := .int, accessFlags := 26, slot := 28, constantValue := 0 }, { name := "MAXIMUM_X500_NAME_RDNS", type := .int, accessFlags := 26, slot := 29, constantValue := 0 }, { name := "QUOTED_CHARACTERS", type := .int, accessFlags := 26, slot := 30, constantValue := 0 }, { name := "POSITIVE_ZERO", type := (.object "java/lang/Double"), accessFlags := 26, slot := 31, constantValue := 0 }, { name := "uri", type := (.object "java/lang/String"), accessFlags := 18, slot := 3, constantValue := 0 }, { name := "$VALUES", type := (.array (.object "com/example/lictor/lictor/engine/DataType")), accessFlags := 4122, slot := 32, constantValue := 0 }]
  methods := #[k6m0]
  instanceTypes := #[(.object "java/lang/String"), .int, .int, (.object "java/lang/String")]
  staticTypes := #[(.object "com/example/lictor/lictor/engine/DataType"), (.object "com/example/lictor/lictor/engine/DataType"), (.object "com/example/lictor/lictor/engine/DataType"), (.object "com/example/lictor/lictor/engine/DataType"), (.object "com/example/lictor/lictor/engine/DataType"), (.object "com/example/lictor/lictor/engine/DataType"), (.object "com/example/lictor/lictor/engine/DataType"), (.object "com/example/lictor/lictor/engine/DataType"), (.object "com/example/lictor/lictor/engine/DataType"), (.object "com/example/lictor/lictor/engine/DataType"), (.object "com/example/lictor/lictor/engine/DataType"), (.object "com/example/lictor/lictor/engine/DataType"), (.object "com/example/lictor/lictor/engine/DataType"), (.object "com/example/lictor/lictor/engine/DataType"), (.object "java/util/regex/Pattern"), (.object "java/util/regex/Pattern"), (.object "java/lang/String"), (.object "java/lang/String"), (.object "java/lang/String"), (.object "java/util/regex/Pattern"), (.object "java/util/regex/Pattern"), (.object "java/util/regex/Pattern"), (.object "java/util/regex/Pattern"), (.object "java/util/regex/Pattern"), (.object "java/util/regex/Pattern"), (.object "java/util/regex/Pattern"), .long, .int, .int, .int, .int, (.object "java/lang/Double"), (.array (.object "com/example/lictor/lictor/engine/DataType"))]
  resolved := Array.replicate 699 none
  statics := some 0 }

def pool7 : Array CpInfo := pool [(1, u "java/lang/Cloneable"), (0, .class_ 1), (0, u "java/lang/Object"), (0, .class_ 3)] 3

/-- java/lang/Cloneable -/
def k7 : Class := { plain "java/lang/Cloneable" (some 0) with
  accessFlags := 1537
  interfaces := #[]
  cf := some (fileOf pool7 2 #[] #[] 1537 4 #[] #[])
  fields := #[]
  methods := #[]
  instanceTypes := #[]
  staticTypes := #[]
  resolved := Array.replicate 8 none
  statics := none }

/-- the primitive byte -/
def k8 : Class := { plain "byte" none with kind := .primitive 'B', accessFlags := 0x411 }
/-- [B -/
def k9 : Class := { plain "[B" (some 0) with kind := .array 8 .byte, interfaces := #[7, 4], accessFlags := 1041 }

/-- the primitive int -/
def k10 : Class := { plain "int" none with kind := .primitive 'I', accessFlags := 0x411 }
/-- [I -/
def k11 : Class := { plain "[I" (some 0) with kind := .array 10 .int, interfaces := #[7, 4], accessFlags := 1041 }

/-- [Lcom/example/lictor/lictor/engine/DataType; -/
def k12 : Class := { plain "[Lcom/example/lictor/lictor/engine/DataType;" (some 0) with kind := .array 6 (.object "com/example/lictor/lictor/engine/DataType"), interfaces := #[7, 4], accessFlags := 1041 }

def heap : Heap := #[{ cls := 6, slots := #[.ref 1, .ref 2, .ref 3, .ref 4, .ref 5, .ref 6, .ref 7, .ref 8, .ref 9, .ref 10, .ref 11, .ref 12, .ref 13, .ref 14, .null, .null, .null, .null, .null, .null, .null, .null, .null, .null, .null, .null, .long 0, .int 0, .int 0, .int 0, .int 0, .null, .null], vm := .statics 6 },
  { cls := 6, slots := #[.null, .int 0, .int 0, .null], vm := .none },
  { cls := 6, slots := #[.null, .int 1, .int 0, .null], vm := .none },
  { cls := 6, slots := #[.null, .int 2, .int 0, .null], vm := .none },
  { cls := 6, slots := #[.null, .int 3, .int 0, .null], vm := .none },
  { cls := 6, slots := #[.null, .int 4, .int 0, .null], vm := .none },
  { cls := 6, slots := #[.null, .int 5, .int 0, .null], vm := .none },
  { cls := 6, slots := #[.null, .int 6, .int 0, .null], vm := .none },
  { cls := 6, slots := #[.null, .int 7, .int 0, .null], vm := .none },
  { cls := 6, slots := #[.null, .int 8, .int 0, .null], vm := .none },
  { cls := 6, slots := #[.null, .int 9, .int 0, .null], vm := .none },
  { cls := 6, slots := #[.null, .int 10, .int 0, .null], vm := .none },
  { cls := 6, slots := #[.null, .int 11, .int 0, .null], vm := .none },
  { cls := 6, slots := #[.null, .int 12, .int 0, .null], vm := .none },
  { cls := 6, slots := #[.null, .int 13, .int 0, .null], vm := .none }]
def classes : Array Class := #[k0, k1, k2, k3, k4, k5, k6, k7, k8, k9, k10, k11, k12]
def interned : List (Array UInt16 × Addr) := []
def slotsUsed : Nat := 89
def theMethod : MethodId := ⟨1, 1⟩
def args0 : Array Value := #[.int 5]
def aboutOver (below : List Frame) : State where
  vm := { classes := classes, interned := interned.toArray }
  heap := heap
  slotsUsed := slotsUsed
  threads := #[{ frames := .invoking theMethod args0 :: below }]
def below0 : List Frame := [.native { method := ⟨0, 0⟩, args := #[] }]
def about1 : State := aboutOver below0
def p0 : Program := .bare "" "" ""
def e0 : Env := launch0.env 0 0 0
theorem w_frames : about1.frames = Frame.invoking theMethod args0 :: below0 := rfl
set_option maxRecDepth 65536 in
theorem w_args : argsFit about1.vm theMethod args0 = true := by decide +kernel
set_option maxRecDepth 65536 in
theorem w_heap : heapFits about1 = true := by decide +kernel
set_option maxRecDepth 65536 in
theorem w_runnable : about1.curStatus? = some .runnable := by decide +kernel
set_option maxRecDepth 65536 in
theorem w_alone : about1.alone = true := by decide +kernel
set_option maxRecDepth 65536 in
theorem w_named : about1.methodNamed? x = some theMethod := by decide +kernel
set_option maxRecDepth 65536 in
theorem w_hears : about1.hears theMethod below0 = true := by decide +kernel
set_option maxRecDepth 65536 in
theorem w_ripe : about1.ripe theMethod args0 below0 = true := by decide +kernel
theorem w_running : about1.status = .running := rfl
set_option maxRecDepth 65536 in
theorem w_room : about1.hasRoom e0.platform room_1 = true :=
  launch0.hasRoom_least _ room_1 (by decide +kernel) (by decide +kernel) (by decide +kernel) (by decide +kernel) (by decide +kernel) (by decide +kernel)
theorem allAtoms_all (ts : List Jvm.Cond) (a : Array Jvm.Value) (st : Jvm.State) : (allAtoms ts).before a st = ts.all (fun c => c.before a st) := by
  induction ts with
  | nil => rfl
  | cons c t ih =>
    show (Jvm.Cond.and c (allAtoms t)).before a st = _
    rw [Jvm.Cond.before_and, ih, List.all_cons]
def words1 : List Jvm.Cond := Jvm.Cond.code x code maxLocals ret :: tables_1
/-- a 'code' word, met by the world's own term for the bytes: nothing is compared byte by byte -/
theorem code_word {y : MethodName} {bytes : ByteArray} {mx : Nat} {rt : Option FieldType} {a : Array Value} {s : State} {m : MethodId} {meth : Method} {c : Code} (h1 : s.methodNamed? y = some m) (h2 : s.vm.method? m = some meth) (h3 : meth.code = some c) (h4 : c.code = bytes)
    (h5 : (c.maxLocals == mx && c.exceptionTable.isEmpty && decide (c.maxStack ≤ mostOperands) && decide (meth.sig.returnType = rt) && !meth.locks && decide (parseMethodDescriptor y.desc = some meth.sig)) = true) : (Jvm.Cond.code y bytes mx rt).before a s = true := by
  simp only [Bool.and_eq_true, beq_iff_eq, Bool.not_eq_true', decide_eq_true_eq] at h5
  obtain ⟨⟨⟨⟨⟨g1, g2⟩, g3⟩, g4⟩, g5⟩, g6⟩ := h5
  simp [Cond.before, Cond.holds, Cond.value, h1, h2, h3, h4, g1, g2, g3, g4, g5, g6]
def isCode : Jvm.Cond → Bool
  | .code _ _ _ _ => true
  | _ => false
theorem all_split {L : List Jvm.Cond} {P : Jvm.Cond → Bool} (h1 : L.all (fun c => isCode c || P c) = true) (h2 : ∀ c ∈ L.filter isCode, P c = true) : L.all P = true := by
  refine List.all_eq_true.mpr fun c hc => ?_
  have h := List.all_eq_true.mp h1 c hc
  rcases Bool.eq_false_or_eq_true (isCode c) with hi | hi
  · exact h2 c (List.mem_filter.mpr ⟨hc, hi⟩)
  · simpa [hi] using h
set_option maxRecDepth 65536 in
theorem w_c0 : (Jvm.Cond.code x code maxLocals ret).before args0 about1 = true := code_word (m := ⟨1, 1⟩) (meth := k1m1) (c := k1c1) (by decide +kernel) rfl rfl rfl (by decide +kernel)
set_option maxRecDepth 65536 in
theorem w_c1 : (Jvm.Cond.code ({ cls := "com/example/lictor/lictor/engine/DataType", name := "isOrdered", desc := "()Z" } : Jvm.MethodName) prog_35_method_7_code (1 : Nat) (Option.some Jvm.ClassFile.FieldType.boolean)).before args0 about1 = true := code_word (m := ⟨6, 0⟩) (meth := k6m0) (c := k6c0) (by decide +kernel) rfl rfl rfl (by decide +kernel)
set_option maxRecDepth 65536 in
theorem w_c2 : (Jvm.Cond.code ({ cls := "java/lang/Enum", name := "ordinal", desc := "()I" } : Jvm.MethodName) jdk_37_method_2_code (1 : Nat) (Option.some Jvm.ClassFile.FieldType.int)).before args0 about1 = true := code_word (m := ⟨5, 0⟩) (meth := k5m0) (c := k5c0) (by decide +kernel) rfl rfl rfl (by decide +kernel)
def codes1 : List Jvm.Cond := [Jvm.Cond.code x code maxLocals ret, Jvm.Cond.code ({ cls := "com/example/lictor/lictor/engine/DataType", name := "isOrdered", desc := "()Z" } : Jvm.MethodName) prog_35_method_7_code (1 : Nat) (Option.some Jvm.ClassFile.FieldType.boolean), Jvm.Cond.code ({ cls := "java/lang/Enum", name := "ordinal", desc := "()I" } : Jvm.MethodName) jdk_37_method_2_code (1 : Nat) (Option.some Jvm.ClassFile.FieldType.int)]
set_option maxRecDepth 65536 in
theorem codes_eq : words1.filter isCode = codes1 := rfl
theorem w_codes : ∀ c ∈ words1.filter isCode, c.before args0 about1 = true := by
  rw [codes_eq]
  intro c hc
  simp only [codes1, List.mem_cons, List.not_mem_nil, or_false] at hc
  rcases hc with rfl | rfl | rfl
  · exact w_c0
  · exact w_c1
  · exact w_c2
set_option maxRecDepth 65536 in
theorem w_t1 : (words1.take 24).all (fun c => isCode c || c.before args0 about1) = true := by decide +kernel
set_option maxRecDepth 65536 in
theorem w_t2 : (words1.drop 24).all (fun c => isCode c || c.before args0 about1) = true := by decide +kernel
theorem w_tables : (allAtoms (Jvm.Cond.code x code maxLocals ret :: tables_1)).before args0 about1 = true := by
  rw [allAtoms_all]
  show words1.all (fun c => c.before args0 about1) = true
  refine all_split ?_ w_codes
  rw [← List.take_append_drop 24 words1, List.all_append, w_t1, w_t2]
  rfl
set_option maxRecDepth 65536 in
theorem w_case : (Jvm.Cond.and given_1 narrow_1).before args0 about1 = true := by decide +kernel
theorem w_applies : (headSpec (Jvm.Cond.code x code maxLocals ret :: tables_1) room_1).applies x e0.platform about1 = true :=
  (Spec.applies_iff w_frames).mpr ⟨w_running, w_runnable, w_alone, w_named, w_hears, w_ripe, w_room, w_tables⟩
theorem atStart : AtStart classFile x code maxLocals ret World_1 tables_1 room_1 Calls_1 rest_1 Pre_1 launch0 p0 e0 about1 theMethod args0 below0 :=
  ⟨lists_1, trivial, launch0.admits_env _ _ _, launch0.least_env, fairChoices_fair.cas, fairChoices_fair.clock, w_frames, w_args, w_heap, w_applies, trivial, trivial, w_case⟩
end start1
theorem witness_1 : WitnessClaimed_1 := ⟨start1.p0, start1.e0, start1.about1, start1.theMethod, start1.args0, start1.below0, start1.atStart⟩
end Jvm.Pilot.@@N@@
