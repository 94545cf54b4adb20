import JvmDerived
import JvmDerived.Pilot.@@N@@Statement
import JvmDerived.Pilot.@@N@@Code
set_option linter.unusedVariables false
set_option linter.unusedSimpArgs false
namespace Jvm.RoadKit
open Sem ClassFile Op Lib Jvm.Stand Jvm.Free Jvm.LawKit
section Own
variable {p : Program} {l : Launch} {e : Env} {R : Room} {s : State} {m : MethodId} {args : Array Value} {below : List Frame} {meth : Method} {c : Code} {T : State} {locs : List Loc} {cells slots : Nat} {Z : State} {a0 : Array Value} {h : Heap}
/-- the run goes on from the frame g over T to an end that P says -/
def own_Go (p : Program) (e : Env) (below : List Frame) (P : Outcome → State → Prop) (T : State) (g : JFrame) : Prop :=
  ∃ s₂ o, Steps p.tables e below (T.setTop g) s₂ ∧ s₂.status = .running ∧ Ended s₂ below o ∧ P o s₂
theorem own_via {P : Outcome → State → Prop} {T' : State} {g g' : JFrame} (k : ∀ target, Steps p.tables e below (T'.setTop g') target → Steps p.tables e below (T.setTop g) target) (q : own_Go p e below P T' g') : own_Go p e below P T g := by
  obtain ⟨s2, o, h1, h2⟩ := q
  exact ⟨s2, o, k _ h1, h2⟩
theorem own_start {P : Outcome → State → Prop} {g g' : JFrame} (q : g = g') (k : own_Go p e below P T g') : own_Go p e below P T g := q ▸ k
/-- what a body owes at its end -/
abbrev own_End (s : State) (Q : Option Value → Heap → List Loc → Prop) (k n : Nat) : Outcome → State → Prop := fun o U' => ∃ v L, o = .returned v ∧ Q v U'.heap L ∧ FrameEnd s o U' L k n
theorem own_ret {Q : Option Value → Heap → List Loc → Prop} {k n : Nat} {pc : Nat} {Ls : Array Slot} {w : Value} {t : FieldType} {i : Instr} {rest : List Value} (X : Stand p l e R s m args below meth c T locs cells slots) (hx : p.tables.exec = Jvm.exec) (hret : meth.sig.returnType = some t) (hlk : meth.locks = false) (hn : narrow t w = w)
    (hi : (i = .ireturn ∧ (t = .int ∨ t = .boolean ∨ t = .byte ∨ t = .char ∨ t = .short) ∧ ∃ z, w = .int z) ∨ (i = .lreturn ∧ t = .long ∧ ∃ z, w = .long z) ∨ (i = .dreturn ∧ t = .double ∧ ∃ z, w = .double z) ∨ (i = .freturn ∧ t = .float ∧ ∃ z, w = .float z) ∨ (i = .areturn ∧ t.isReference = true ∧ w.isRef = true))
    (hd : decode c.code pc = .ok (i, 1)) (hk : cells ≤ k) (hs : slots ≤ n) (hQ : Q (some w) T.heap locs) : own_Go p e below (own_End s Q k n) T (mkF m pc Ls (w :: rest)) := by
  obtain ⟨fs, hr, hrun, hended, hW, hsame⟩ := X.leave (v := some w) (fun q => by rw [hret] at q; cases q) hlk
  exact ⟨_, _, retOut X hx hret hn hi hd hr, hrun, hended, _, _, rfl, hQ, ⟨_, rfl⟩, hW, hsame.mono hk hs⟩
theorem own_retV {Q : Option Value → Heap → List Loc → Prop} {k n : Nat} {pc : Nat} {Ls : Array Slot} (X : Stand p l e R s m args below meth c T locs cells slots) (hx : p.tables.exec = Jvm.exec) (hret : meth.sig.returnType = none) (hlk : meth.locks = false)
    (hd : decode c.code pc = .ok (.return_, 1)) (hk : cells ≤ k) (hs : slots ≤ n) (hQ : Q none T.heap locs) : own_Go p e below (own_End s Q k n) T (mkF m pc Ls []) := by
  obtain ⟨fs, hr, hrun, hended, hW, hsame⟩ := X.leave (v := none) (fun _ => rfl) hlk
  exact ⟨_, _, X.returnOut hx hret hd hr, hrun, hended, _, _, rfl, hQ, ⟨_, rfl⟩, hW, hsame.mono hk hs⟩
/-- a callee that leaves the heap as it was -/
def own_Q (r : Option Value) (h0 : Heap) (v : Option Value) (h : Heap) (L : List Loc) : Prop := v = r ∧ L = [] ∧ h = h0
def own_F (r : Option Value) (n0 : Nat) (v : Option Value) (h : Heap) (L : List Loc) : Prop := v = r ∧ Fr n0 L
theorem own_fin {r v : Option Value} {n0 : Nat} {h : Heap} {L : List Loc} (q : own_F r n0 v h L) : v = r ∧ Fr n0 L := q
abbrev own_Met (l : Launch) (Z : State) (y : MethodName) (ws : List Cond) (rm : Room) (as' : Array Value) (h0 : Heap) (Q : Option Value → Heap → List Loc → Prop) : Prop :=
  MetFree l y (head1 ws rm) (fun a U => a = as' ∧ Z.Warmed39 U.vm ∧ U.heap = h0) (fun _ _ _ _ _ => True) (fun _ U o U' => ∃ v L, o = .returned v ∧ Q v U'.heap L ∧ FrameEnd U o U' L rm.cells rm.slots)
theorem own_callV {own C : String} {index : Nat} {y z : MethodName} {bytes : ByteArray} {maxL : Nat} {ret : Option FieldType} {rm : Room} {as' : Array Value} {r : Option Value} {W : Nat} {b : Addr}
    (X : Stand p l e R s m args below meth c T locs cells slots) (hx : p.tables.exec = Jvm.exec) (hZ : Z.Warmed39 s.vm) (hown : s.vm.findClass own = some m.cls)
    (wl : (Cond.methodLink own index y).before a0 Z = true) (wd : (Cond.declares y).before a0 Z = true) (nf : NotFace s y) (ws : (Cond.selects C y z).before a0 Z = true) (wi : (Cond.instanceMethod z).before a0 Z = true) (hy : y.cls ≠ "java/lang/invoke/MethodHandle" ∧ y.cls ≠ "java/lang/invoke/VarHandle")
    (wc : (Cond.code z bytes maxL ret).before a0 Z = true) (wz : (Cond.initialized z.cls).before a0 Z = true) (hM : own_Met l Z z [Cond.code z bytes maxL ret] rm as' h (own_Q r h)) (eT : T.heap = h) (E : Exa Z h b C)
    (hf : rm.frames + 1 ≤ R.frames) (hl : W + (maxL + 11) + rm.locals ≤ R.locals) (hc : cells + rm.cells ≤ R.cells) (hs : slots + rm.slots ≤ R.slots)
    {g : JFrame} (hg : g.method = m) (hsize : g.locals.size = c.maxLocals) {argsL rest : List Value} (hlen : ∀ sig, parseMethodDescriptor y.desc = some sig → argsL.length = sig.parameters.length) (hstack : g.stack = argsL.reverse ++ .ref b :: rest)
    (hW : 2 * g.monitorRoom + (rest.map fun v => v.category).sum ≤ W) (hdg : decode c.code g.pc = .ok (.invokevirtual index, 3)) (hargs : (.ref b :: argsL).toArray = as') :
    ∃ T', Stand p l e R s m args below meth c T' locs (cells + rm.cells) (slots + rm.slots) ∧ T'.heap = h ∧ ∀ target, Steps p.tables e below (T'.setTop { g with pc := g.pc + 3, stack := r.toList ++ rest }) target → Steps p.tables e below (T.setTop g) target := by
  obtain ⟨cB, kB, q1, q2, q3⟩ := isOf hZ eT E
  obtain ⟨_, _, ⟨T', L', k', n'⟩, -, X', ⟨Lc, hQ, hl', hk', hn'⟩, st⟩ := X.virtualBack hx (y := y) (z := z) hown (mvT hZ wl) (mvT hZ wd) nf (mvT hZ ws) (mvT hZ wi) hy (backOf (W := W) hM hZ wc wz hf hl) q1 q3 hg hsize (Steps.refl _) hlen hstack hW hdg (fun _ _ => ⟨hargs, eT, hc, hs⟩)
  dsimp only [Pt.U, Pt.locs, Pt.cells, Pt.slots] at X' hl' hk' hn' st hQ
  subst hl' hk' hn'
  obtain ⟨rfl, rfl, e'⟩ := hQ
  rw [List.append_nil] at X'
  exact ⟨T', X', e', fun target k => st.trans k⟩
theorem own_callU {own C owner : String} {index : Nat} {y z : MethodName} {bytes : ByteArray} {maxL : Nat} {ret : Option FieldType} {rm : Room} {as' : Array Value} {r : Option Value} {W : Nat} {b : Addr}
    (X : Stand p l e R s m args below meth c T locs cells slots) (hx : p.tables.exec = Jvm.exec) (hZ : Z.Warmed39 s.vm) (hown : s.vm.findClass own = some m.cls)
    (wl : (Cond.methodLink own index y).before a0 Z = true) (wm : (Cond.sameMethod y.cls owner y.name y.desc).before a0 Z = true) (wd : (Cond.declares ⟨owner, y.name, y.desc⟩).before a0 Z = true) (ho : owner ≠ "java/lang/invoke/MethodHandle" ∧ owner ≠ "java/lang/invoke/VarHandle") (ws : (Cond.selects C y z).before a0 Z = true) (wi : (Cond.instanceMethod z).before a0 Z = true)
    (wc : (Cond.code z bytes maxL ret).before a0 Z = true) (wz : (Cond.initialized z.cls).before a0 Z = true) (hM : own_Met l Z z [Cond.code z bytes maxL ret] rm as' h (own_Q r h)) (eT : T.heap = h) (E : Exa Z h b C)
    (hf : rm.frames + 1 ≤ R.frames) (hl : W + (maxL + 11) + rm.locals ≤ R.locals) (hc : cells + rm.cells ≤ R.cells) (hs : slots + rm.slots ≤ R.slots)
    {g : JFrame} (hg : g.method = m) (hsize : g.locals.size = c.maxLocals) {argsL rest : List Value} (hlen : ∀ sig, parseMethodDescriptor y.desc = some sig → argsL.length = sig.parameters.length) (hstack : g.stack = argsL.reverse ++ .ref b :: rest)
    (hW : 2 * g.monitorRoom + (rest.map fun v => v.category).sum ≤ W) (hdg : decode c.code g.pc = .ok (.invokevirtual index, 3)) (hargs : (.ref b :: argsL).toArray = as') :
    ∃ T', Stand p l e R s m args below meth c T' locs (cells + rm.cells) (slots + rm.slots) ∧ T'.heap = h ∧ ∀ target, Steps p.tables e below (T'.setTop { g with pc := g.pc + 3, stack := r.toList ++ rest }) target → Steps p.tables e below (T.setTop g) target := by
  obtain ⟨cB, kB, q1, q2, q3⟩ := isOf hZ eT E
  obtain ⟨_, _, ⟨T', L', k', n'⟩, -, X', ⟨Lc, hQ, hl', hk', hn'⟩, st⟩ := X.virtualBackUp hx (x := y) (y := z) (owner := owner) hown (mvT hZ wl) (mvT hZ wm) (mvT hZ wd) ho (mvT hZ ws) (mvT hZ wi) (backOf (W := W) hM hZ wc wz hf hl) q1 q3 hg hsize (Steps.refl _) hlen hstack hW hdg (fun _ _ => ⟨hargs, eT, hc, hs⟩)
  dsimp only [Pt.U, Pt.locs, Pt.cells, Pt.slots] at X' hl' hk' hn' st hQ
  subst hl' hk' hn'
  obtain ⟨rfl, rfl, e'⟩ := hQ
  rw [List.append_nil] at X'
  exact ⟨T', X', e', fun target k => st.trans k⟩
theorem own_callS {own : String} {index : Nat} {y : MethodName} {bytes : ByteArray} {maxL : Nat} {ret : Option FieldType} {rm : Room} {as' : Array Value} {r : Option Value} {W : Nat}
    (X : Stand p l e R s m args below meth c T locs cells slots) (hx : p.tables.exec = Jvm.exec) (hZ : Z.Warmed39 s.vm) (hown : s.vm.findClass own = some m.cls)
    (wl : (Cond.methodLink own index y).before a0 Z = true) (wt : (Cond.static y).before a0 Z = true) (wz : (Cond.initialized y.cls).before a0 Z = true) (wc : (Cond.code y bytes maxL ret).before a0 Z = true) (hy : y.cls ≠ "java/lang/invoke/MethodHandle" ∧ y.cls ≠ "java/lang/invoke/VarHandle")
    (hM : own_Met l Z y [Cond.code y bytes maxL ret] rm as' h (own_Q r h)) (eT : T.heap = h)
    (hf : rm.frames + 1 ≤ R.frames) (hl : W + (maxL + 11) + rm.locals ≤ R.locals) (hc : cells + rm.cells ≤ R.cells) (hs : slots + rm.slots ≤ R.slots)
    {g : JFrame} (hg : g.method = m) (hsize : g.locals.size = c.maxLocals) {argsL rest : List Value} (hlen : ∀ sig, parseMethodDescriptor y.desc = some sig → argsL.length = sig.parameters.length) (hstack : g.stack = argsL.reverse ++ rest)
    (hW : 2 * g.monitorRoom + (rest.map fun v => v.category).sum ≤ W) (hdg : decode c.code g.pc = .ok (.invokestatic index, 3)) (hargs : argsL.toArray = as') :
    ∃ T', Stand p l e R s m args below meth c T' locs (cells + rm.cells) (slots + rm.slots) ∧ T'.heap = h ∧ ∀ target, Steps p.tables e below (T'.setTop { g with pc := g.pc + 3, stack := r.toList ++ rest }) target → Steps p.tables e below (T.setTop g) target := by
  obtain ⟨_, _, ⟨T', L', k', n'⟩, -, X', ⟨Lc, hQ, hl', hk', hn'⟩, st⟩ := Jvm.LawKit.callS X hx (y := y) hown (mvT hZ wl) (mvT hZ wt) (mvT hZ wz) (mvT hZ wc) hy (backOf (W := W) hM hZ wc wz hf hl) hg hsize hlen hstack hW hdg (fun _ _ => ⟨hargs, eT, hc, hs⟩)
  dsimp only [Pt.U, Pt.locs, Pt.cells, Pt.slots] at X' hl' hk' hn' st hQ
  subst hl' hk' hn'
  obtain ⟨rfl, rfl, e'⟩ := hQ
  rw [List.append_nil] at X'
  exact ⟨T', X', e', st⟩
theorem own_evI {t : Term} {k : Int32} (q : (Cond.eq t (.int k)).value args Z none Z [] = some true) : t.eval args Z none [] Z = some (.int k) := eqv_i rfl q
theorem own_evL {t : Term} {k : Int64} (q : (Cond.eq t (.long k)).value args Z none Z [] = some true) : t.eval args Z none [] Z = some (.long k) := eqv_l rfl q
theorem own_fld {t : Term} {k : Int32} {a : Addr} {C n d : String} (q : (Cond.eq (.field t C n d) (.int k)).value args Z none Z [] = some true) (ht : t.eval args Z none [] Z = some (.ref a)) : Fld Z Z.heap a C n d (.int k) := Fld.start ((fld_at ht).symm.trans (own_evI q))
theorem own_staK {h' : Heap} {C n d : String} {v : Value} (F : Sta Z h C n d v) (K : Keep h h' []) : Sta Z h' C n d v := by
  obtain ⟨cf, i, k, f, st, cell, h1, h2, h3, h4, h5, r⟩ := F
  exact ⟨cf, i, k, f, st, cell, h1, h2, h3, h4, K.2.1 _ _ h5 nin0, r⟩
theorem own_arrK {h' : Heap} {a : Addr} {cl : Cell} {ty : FieldType} (F : Arr Z h a cl ty) (K : Keep h h' []) : Arr Z h' a cl ty := ⟨K.2.1 _ _ F.1 nin0, F.2⟩
/-- a static call by a contract of any kind -/
theorem own_callSQ {own : String} {index : Nat} {y : MethodName} {bytes : ByteArray} {maxL : Nat} {ret : Option FieldType} {rm : Room} {as' : Array Value} {Q : Option Value → Heap → List Loc → Prop} {W : Nat}
    (X : Stand p l e R s m args below meth c T locs cells slots) (hx : p.tables.exec = Jvm.exec) (hZ : Z.Warmed39 s.vm) (hown : s.vm.findClass own = some m.cls)
    (wl : (Cond.methodLink own index y).before a0 Z = true) (wt : (Cond.static y).before a0 Z = true) (wz : (Cond.initialized y.cls).before a0 Z = true) (wc : (Cond.code y bytes maxL ret).before a0 Z = true) (hy : y.cls ≠ "java/lang/invoke/MethodHandle" ∧ y.cls ≠ "java/lang/invoke/VarHandle")
    (hM : own_Met l Z y [Cond.code y bytes maxL ret] rm as' h Q) (eT : T.heap = h)
    (hf : rm.frames + 1 ≤ R.frames) (hl : W + (maxL + 11) + rm.locals ≤ R.locals) (hc : cells + rm.cells ≤ R.cells) (hs : slots + rm.slots ≤ R.slots)
    {g : JFrame} (hg : g.method = m) (hsize : g.locals.size = c.maxLocals) {argsL rest : List Value} (hlen : ∀ sig, parseMethodDescriptor y.desc = some sig → argsL.length = sig.parameters.length) (hstack : g.stack = argsL.reverse ++ rest)
    (hW : 2 * g.monitorRoom + (rest.map fun v => v.category).sum ≤ W) (hdg : decode c.code g.pc = .ok (.invokestatic index, 3)) (hargs : argsL.toArray = as') :
    ∃ v T' Lc, Stand p l e R s m args below meth c T' (locs ++ Lc) (cells + rm.cells) (slots + rm.slots) ∧ Q v T'.heap Lc ∧ ∀ target, Steps p.tables e below (T'.setTop { g with pc := g.pc + 3, stack := v.toList ++ rest }) target → Steps p.tables e below (T.setTop g) target := by
  obtain ⟨v, _, ⟨T', L', k', n'⟩, -, X', ⟨Lc, hQ, hl', hk', hn'⟩, st⟩ := Jvm.LawKit.callS X hx (y := y) hown (mvT hZ wl) (mvT hZ wt) (mvT hZ wz) (mvT hZ wc) hy (backOf (W := W) hM hZ wc wz hf hl) hg hsize hlen hstack hW hdg (fun _ _ => ⟨hargs, eT, hc, hs⟩)
  dsimp only [Pt.U, Pt.locs, Pt.cells, Pt.slots] at X' hl' hk' hn' st hQ
  subst hl' hk' hn'
  exact ⟨v, T', Lc, X', hQ, st⟩
/-- a constructor's call by a contract of any kind -/
theorem own_callIQ {own : String} {index : Nat} {y : MethodName} {bytes : ByteArray} {maxL : Nat} {rm : Room} {as' : Array Value} {Q : Option Value → Heap → List Loc → Prop} {W : Nat} {b : Addr}
    (X : Stand p l e R s m args below meth c T locs cells slots) (hx : p.tables.exec = Jvm.exec) (hZ : Z.Warmed39 s.vm) (hy1 : y.name = "<init>") (hown : s.vm.findClass own = some m.cls)
    (wl : (Cond.methodLink own index y).before a0 Z = true) (wi : (Cond.instanceMethod y).before a0 Z = true) (wz : (Cond.initialized y.cls).before a0 Z = true) (wc : (Cond.code y bytes maxL none).before a0 Z = true) (hy : y.cls ≠ "java/lang/invoke/MethodHandle" ∧ y.cls ≠ "java/lang/invoke/VarHandle")
    (hM : own_Met l Z y [Cond.code y bytes maxL none] rm as' h Q) (eT : T.heap = h)
    (hf : rm.frames + 1 ≤ R.frames) (hl : W + (maxL + 11) + rm.locals ≤ R.locals) (hc : cells + rm.cells ≤ R.cells) (hs : slots + rm.slots ≤ R.slots)
    {g : JFrame} (hg : g.method = m) (hsize : g.locals.size = c.maxLocals) {argsL rest : List Value} (hlen : ∀ sig, parseMethodDescriptor y.desc = some sig → argsL.length = sig.parameters.length) (hstack : g.stack = argsL.reverse ++ .ref b :: rest)
    (hW : 2 * g.monitorRoom + (rest.map fun v => v.category).sum ≤ W) (hdg : decode c.code g.pc = .ok (.invokespecial index, 3)) (hargs : (.ref b :: argsL).toArray = as') :
    ∃ v T' Lc, Stand p l e R s m args below meth c T' (locs ++ Lc) (cells + rm.cells) (slots + rm.slots) ∧ Q v T'.heap Lc ∧ ∀ target, Steps p.tables e below (T'.setTop { g with pc := g.pc + 3, stack := v.toList ++ rest }) target → Steps p.tables e below (T.setTop g) target := by
  obtain ⟨v, _, ⟨T', L', k', n'⟩, -, X', ⟨Lc, hQ, hl', hk', hn'⟩, st⟩ := X.specialBack hx (y := y) hy1 hown (mvT hZ wl) (mvT hZ wi) (mvT hZ wc) hy (backOf (W := W) hM hZ wc wz hf hl) hg hsize (Steps.refl _) (a := b) hlen hstack hW hdg (fun _ _ => ⟨hargs, eT, hc, hs⟩)
  dsimp only [Pt.U, Pt.locs, Pt.cells, Pt.slots] at X' hl' hk' hn' st hQ
  subst hl' hk' hn'
  exact ⟨v, T', Lc, X', hQ, fun target k => st.trans k⟩
/-- the same where the callee leaves the heap as it is -/
theorem own_callI {own : String} {index : Nat} {y : MethodName} {bytes : ByteArray} {maxL : Nat} {rm : Room} {as' : Array Value} {W : Nat} {b : Addr}
    (X : Stand p l e R s m args below meth c T locs cells slots) (hx : p.tables.exec = Jvm.exec) (hZ : Z.Warmed39 s.vm) (hy1 : y.name = "<init>") (hown : s.vm.findClass own = some m.cls)
    (wl : (Cond.methodLink own index y).before a0 Z = true) (wi : (Cond.instanceMethod y).before a0 Z = true) (wz : (Cond.initialized y.cls).before a0 Z = true) (wc : (Cond.code y bytes maxL none).before a0 Z = true) (hy : y.cls ≠ "java/lang/invoke/MethodHandle" ∧ y.cls ≠ "java/lang/invoke/VarHandle")
    (hM : own_Met l Z y [Cond.code y bytes maxL none] rm as' h (own_Q none h)) (eT : T.heap = h)
    (hf : rm.frames + 1 ≤ R.frames) (hl : W + (maxL + 11) + rm.locals ≤ R.locals) (hc : cells + rm.cells ≤ R.cells) (hs : slots + rm.slots ≤ R.slots)
    {g : JFrame} (hg : g.method = m) (hsize : g.locals.size = c.maxLocals) {argsL rest : List Value} (hlen : ∀ sig, parseMethodDescriptor y.desc = some sig → argsL.length = sig.parameters.length) (hstack : g.stack = argsL.reverse ++ .ref b :: rest)
    (hW : 2 * g.monitorRoom + (rest.map fun v => v.category).sum ≤ W) (hdg : decode c.code g.pc = .ok (.invokespecial index, 3)) (hargs : (.ref b :: argsL).toArray = as') :
    ∃ T', Stand p l e R s m args below meth c T' locs (cells + rm.cells) (slots + rm.slots) ∧ T'.heap = h ∧ ∀ target, Steps p.tables e below (T'.setTop { g with pc := g.pc + 3, stack := rest }) target → Steps p.tables e below (T.setTop g) target := by
  obtain ⟨v, T', Lc, X', ⟨rfl, rfl, e'⟩, st⟩ := own_callIQ X hx hZ hy1 hown wl wi wz wc hy hM eT hf hl hc hs hg hsize hlen hstack hW hdg hargs
  rw [List.append_nil] at X'
  exact ⟨T', X', e', st⟩
/-- roads that join: the rest of the walk is told once, for every x -/
theorem own_join {α : Type} {P : Outcome → State → Prop} {g : α → JFrame} {g0 : JFrame} (X : Stand p l e R s m args below meth c T locs cells slots) (eT : T.heap = h)
    (body : ∀ (x : α) (T' : State), Stand p l e R s m args below meth c T' locs cells slots → T'.heap = h → own_Go p e below P T' (g x))
    (rest : (∀ (x : α) (T' : State), Stand p l e R s m args below meth c T' locs cells slots → T'.heap = h → own_Go p e below P T' (g x)) → own_Go p e below P T g0) : own_Go p e below P T g0 := rest body
/-- a class whose line of superclasses ends without K is none of K's, where K is a class that can be instantiated -/
theorem own_NSroot {O K : String} {n : Nat} (w : (Cond.noSuperclass O).before a0 Z = true) (wk : (Cond.instantiable K n).before a0 Z = true) (hn : O ≠ K) : NS Z O K := by
  obtain ⟨c, k, h1, h2, h3, -, -⟩ := Cond.noSuperclass_spec w
  obtain ⟨t, kt, g1, -⟩ := Cond.instantiable_spec wk
  have ne := ids_ne h1 g1 hn
  refine ⟨c, t, h1, g1, fun fuel => ?_⟩
  cases fuel with
  | zero => rfl
  | succ f => simp [Vm.isSubclassAux, ne, h2, h3]
theorem own_NSno {C S K : String} {n : Nat} (w : (Cond.superclass C S).before a0 Z = true) (wk : (Cond.instantiable K n).before a0 Z = true) (q : NS Z C K) (hn : C ≠ K) : ∃ c t, Z.vm.findClass C = some c ∧ Z.vm.findClass K = some t ∧ Z.vm.assignable c t = false := by
  obtain ⟨c, t, h0, g0, n3⟩ := q
  obtain ⟨p, k, kp, h1, h2, h3, h4, h5, -, h7⟩ := Cond.superclass_spec h0 w
  obtain ⟨t', kt, g1, g2, g5, g7, -⟩ := Cond.instantiable_spec wk
  cases g0.symm.trans g1
  have g8 : kt.isInterface = false := by simp at g7; exact g7.1
  have ne := ids_ne h0 g0 hn
  refine ⟨c, t, h0, g0, ?_⟩
  show Z.vm.assignableAux (255 + 1) c t = false
  simp [Vm.assignableAux, ne, h2, g2, h5, g5, g8, Vm.isSubclass, n3]
theorem own_len {t : Term} {a : Addr} {cl : Cell} {ty : FieldType} {z : Int32} (ev : t.eval args Z none [] Z = some (.ref a)) (A : Arr Z Z.heap a cl ty) (q : (Term.length t).eval args Z none [] Z = some (.int z)) : cl.slots.size < 2 ^ 31 ∧ cl.slots.size.toInt32 = z := by
  have ha : Z.arrayAt? a = some cl := A.fin (Vm.Alike.refl _)
  by_cases hl : cl.slots.size < 2 ^ 31
  · rw [len_f ev ha hl] at q
    exact ⟨hl, Value.int.inj (Option.some.inj q)⟩
  · exfalso
    simp [Term.eval, ev, ha, hl] at q
theorem own_size {n : Nat} {z : Int32} (q : n < 2 ^ 31) (e : n.toInt32 = z) : n = z.toNatClampNeg := by
  rw [← e]
  simp only [Int32.toNatClampNeg, len_toInt q]
  rfl
end Own
end Jvm.RoadKit
namespace Jvm.Pilot.@@N@@
open Jvm Jvm.ClassFile Sem Op Lib Jvm.Free Jvm.Stand Jvm.LawKit Jvm.RoadKit Bundle Jvm.Pilot.@@N@@.Jvm.D
def own_isFin (b wS wD : Addr) : Int32 := if b = wS ∨ b = wD then 1 else 0
theorem pn_0 : plainName "com/example/manoa/manoa/core/JobState" = true := by first | (simp [plainName, overriddenIn]; done) | decide +kernel
theorem d_prog_32_method_5_code_0 : decode prog_32_method_5_code 0 = .ok (.aload_n 0, 1) := by decide +kernel
theorem d_prog_32_method_5_code_1 : decode prog_32_method_5_code 1 = .ok (.getstatic 13, 3) := by decide +kernel
theorem d_prog_32_method_5_code_4 : decode prog_32_method_5_code 4 = .ok (.if_acmp .eq 10, 3) := by decide +kernel
theorem d_prog_32_method_5_code_7 : decode prog_32_method_5_code 7 = .ok (.aload_n 0, 1) := by decide +kernel
theorem d_prog_32_method_5_code_8 : decode prog_32_method_5_code 8 = .ok (.getstatic 16, 3) := by decide +kernel
theorem d_prog_32_method_5_code_11 : decode prog_32_method_5_code 11 = .ok (.if_acmp .ne 7, 3) := by decide +kernel
theorem d_prog_32_method_5_code_14 : decode prog_32_method_5_code 14 = .ok (.iconst 1, 1) := by decide +kernel
theorem d_prog_32_method_5_code_15 : decode prog_32_method_5_code 15 = .ok (.goto 4, 3) := by decide +kernel
theorem d_prog_32_method_5_code_18 : decode prog_32_method_5_code 18 = .ok (.iconst 0, 1) := by decide +kernel
theorem d_prog_32_method_5_code_19 : decode prog_32_method_5_code 19 = .ok (.ireturn, 1) := by decide +kernel
set_option maxRecDepth 65536 in
set_option maxHeartbeats 40000000 in
theorem own_c1 (l : Launch) (Z : State) (a0 : Array Value) (hw : ∀ d ∈ tables_1, d.before a0 Z = true) (b wS wD : Addr) (r : Int32) (h0 : Heap) (SS : Sta Z h0 "com/example/manoa/manoa/core/JobState" "SUCCEEDED" "Lcom/example/manoa/manoa/core/JobState;" (.ref wS)) (SD : Sta Z h0 "com/example/manoa/manoa/core/JobState" "DEAD" "Lcom/example/manoa/manoa/core/JobState;" (.ref wD)) (hr : r = own_isFin b wS wD) :
    own_Met l Z (⟨"com/example/manoa/manoa/core/JobState", "isFinished", "()Z"⟩ : MethodName) [Jvm.Cond.code (⟨"com/example/manoa/manoa/core/JobState", "isFinished", "()Z"⟩ : MethodName) prog_32_method_5_code 1 (some .boolean)] ({ frames := 0, cells := 0, slots := 0, locals := 0 } : Room) #[(.ref b)] h0 (own_Q (some (.int r)) h0) := by
  refine MetFree.of_bodySF (plainFor_of_name pn_0) hisR ?_
  intro p e s m args below meth c s₁ Bd hml0 hP hK
  obtain ⟨rfl, hZ, hh⟩ := hP
  have hx := Bd.exec
  have hby := Bd.bytes
  have hml : c.maxLocals = 1 := hml0
  have hown : s.vm.findClass "com/example/manoa/manoa/core/JobState" = some m.cls := findClass_of_methodNamed Bd.named
  have hnm := (name_of_methodNamed Bd.named Bd.method).1
  have hlk : meth.locks = false := BodyLoose.notSynchronized Bd
  have X0 : Stand p l e ({ frames := 0, cells := 0, slots := 0, locals := 0 } : Room) s m #[(.ref b)] below meth c s₁ [] 0 0 := Stand.of_body Bd
  have e0 : s₁.heap = h0 := by rw [← hh, Bd.state]; rfl
  show own_Go p e below (own_End s (own_Q (some (.int r)) h0) 0 0) s₁ (entryFrame m #[(.ref b)] 1)
  refine own_start (g' := mkF m 0 #[.val (.ref b)] []) (by first | rfl | (simp [entryFrame, mkF, argsToLocals, Value.category, maxLocals]; done)) ?_
  refine own_via (T' := s₁) (g' := (mkF m 1 #[.val (.ref b)] [(.ref b)])) (fun t k => XS.aloadN X0.here hx rfl (hb hby d_prog_32_method_5_code_0) rfl rfl k) ?_
  obtain ⟨T1, X1, e1, st1⟩ := getS2 X0 hx hZ hown (host := "") (Or.inl (hw _ (List.mem_of_getElem? (i := 9) rfl))) Via.refl e0 SS (g := (mkF m 1 #[.val (.ref b)] [(.ref b)])) rfl (hb hby d_prog_32_method_5_code_1)
  refine own_via (T' := T1) (g' := (mkF m 4 #[.val (.ref b)] [(.ref wS), (.ref b)])) st1 ?_
  by_cases hc2 : b = wS
  · refine own_via (T' := T1) (g' := (mkF m 14 #[.val (.ref b)] [])) (fun t k => Jvm.RoadKit.acmp (g := (mkF m 4 #[.val (.ref b)] [(.ref wS), (.ref b)])) X1 hx rfl rfl rfl (pc0 := 4) (pc' := 14) (same := true) rfl (hb hby d_prog_32_method_5_code_4) rfl (decide_eq_true (congrArg Value.ref hc2)) (by decide) (by decide) k) ?_
    refine own_via (T' := T1) (g' := (mkF m 15 #[.val (.ref b)] [(.int (1 : Int32))])) (fun t k => XS.iconst X1.here hx rfl (hb hby d_prog_32_method_5_code_14) k) ?_
    refine own_via (T' := T1) (g' := (mkF m 19 #[.val (.ref b)] [(.int (1 : Int32))])) (fun t k => XS.goto X1.here hx rfl (pc0 := 15) (pc' := 19) rfl (hb hby d_prog_32_method_5_code_15) (by decide) (by decide) k) ?_
    exact own_ret (t := .boolean) X1 hx Bd.returns hlk rfl (Or.inl ⟨rfl, by simp, _, rfl⟩) (hb hby d_prog_32_method_5_code_19) (by decide) (by decide) ⟨by rw [hr]; simp [own_isFin, hc2], rfl, e1⟩
  · refine own_via (T' := T1) (g' := (mkF m 7 #[.val (.ref b)] [])) (fun t k => Jvm.RoadKit.acmp (g := (mkF m 4 #[.val (.ref b)] [(.ref wS), (.ref b)])) X1 hx rfl rfl rfl (pc0 := 4) (pc' := 7) (same := false) rfl (hb hby d_prog_32_method_5_code_4) rfl (decide_eq_false fun q => hc2 (Value.ref.inj q)) (by decide) (by decide) k) ?_
    refine own_via (T' := T1) (g' := (mkF m 8 #[.val (.ref b)] [(.ref b)])) (fun t k => XS.aloadN X1.here hx rfl (hb hby d_prog_32_method_5_code_7) rfl rfl k) ?_
    obtain ⟨T3, X3, e3, st3⟩ := getS2 X1 hx hZ hown (host := "") (Or.inl (hw _ (List.mem_of_getElem? (i := 11) rfl))) Via.refl e1 SD (g := (mkF m 8 #[.val (.ref b)] [(.ref b)])) rfl (hb hby d_prog_32_method_5_code_8)
    refine own_via (T' := T3) (g' := (mkF m 11 #[.val (.ref b)] [(.ref wD), (.ref b)])) st3 ?_
    by_cases hc4 : b = wD
    · refine own_via (T' := T3) (g' := (mkF m 14 #[.val (.ref b)] [])) (fun t k => Jvm.RoadKit.acmp (g := (mkF m 11 #[.val (.ref b)] [(.ref wD), (.ref b)])) X3 hx rfl rfl rfl (pc0 := 11) (pc' := 14) (same := true) rfl (hb hby d_prog_32_method_5_code_11) rfl (decide_eq_true (congrArg Value.ref hc4)) (by decide) (by decide) k) ?_
      refine own_via (T' := T3) (g' := (mkF m 15 #[.val (.ref b)] [(.int (1 : Int32))])) (fun t k => XS.iconst X3.here hx rfl (hb hby d_prog_32_method_5_code_14) k) ?_
      refine own_via (T' := T3) (g' := (mkF m 19 #[.val (.ref b)] [(.int (1 : Int32))])) (fun t k => XS.goto X3.here hx rfl (pc0 := 15) (pc' := 19) rfl (hb hby d_prog_32_method_5_code_15) (by decide) (by decide) k) ?_
      exact own_ret (t := .boolean) X3 hx Bd.returns hlk rfl (Or.inl ⟨rfl, by simp, _, rfl⟩) (hb hby d_prog_32_method_5_code_19) (by decide) (by decide) ⟨by rw [hr]; simp [own_isFin, hc2, hc4], rfl, e3⟩
    · refine own_via (T' := T3) (g' := (mkF m 18 #[.val (.ref b)] [])) (fun t k => Jvm.RoadKit.acmp (g := (mkF m 11 #[.val (.ref b)] [(.ref wD), (.ref b)])) X3 hx rfl rfl rfl (pc0 := 11) (pc' := 18) (same := false) rfl (hb hby d_prog_32_method_5_code_11) rfl (decide_eq_false fun q => hc4 (Value.ref.inj q)) (by decide) (by decide) k) ?_
      refine own_via (T' := T3) (g' := (mkF m 19 #[.val (.ref b)] [(.int (0 : Int32))])) (fun t k => XS.iconst X3.here hx rfl (hb hby d_prog_32_method_5_code_18) k) ?_
      exact own_ret (t := .boolean) X3 hx Bd.returns hlk rfl (Or.inl ⟨rfl, by simp, _, rfl⟩) (hb hby d_prog_32_method_5_code_19) (by decide) (by decide) ⟨by rw [hr]; simp [own_isFin, hc2, hc4], rfl, e3⟩
theorem own_mod5 (x k : Int32) (hk : (x &&& (2147483647 : Int32)) % (5 : Int32) = k) : k = 0 ∨ k = 1 ∨ k = 2 ∨ k = 3 ∨ k = 4 := by
  have h1 := c_mask x 2147483647 31 (by decide) (by decide)
  have h2 := (c_irem (x &&& 2147483647) 5 5 (by decide)).1 (by rw [h1]; omega)
  rw [hk] at h2
  have h3 : k.toInt = 0 ∨ k.toInt = 1 ∨ k.toInt = 2 ∨ k.toInt = 3 ∨ k.toInt = 4 := by omega
  rcases h3 with h | h | h | h | h
  · exact Or.inl (Int32.toInt_inj.mp (by rw [h]; decide))
  · exact Or.inr (Or.inl (Int32.toInt_inj.mp (by rw [h]; decide)))
  · exact Or.inr (Or.inr (Or.inl (Int32.toInt_inj.mp (by rw [h]; decide))))
  · exact Or.inr (Or.inr (Or.inr (Or.inl (Int32.toInt_inj.mp (by rw [h]; decide)))))
  · exact Or.inr (Or.inr (Or.inr (Or.inr (Int32.toInt_inj.mp (by rw [h]; decide)))))
theorem pn_1 : plainName "com/example/manoa/manoa/core/JobStateIsFinishedPinLaw" = true := by first | (simp [plainName, overriddenIn]; done) | decide +kernel
theorem pd_10 : parseMethodDescriptor "()Z" = some ⟨[], some .boolean⟩ := by decide +kernel
set_option maxRecDepth 65536 in
set_option maxHeartbeats 40000000 in
theorem own_c0 (l : Launch) (Z : State) (a0 : Array Value) (hw : ∀ d ∈ tables_1, d.before a0 Z = true) (p1 : Int32) (w_READY w_SCHEDULED w_RUNNING w_SUCCEEDED w_DEAD : Addr) (h0 : Heap) (S_READY : Sta Z h0 "com/example/manoa/manoa/core/JobState" "READY" "Lcom/example/manoa/manoa/core/JobState;" (.ref w_READY)) (E_READY : Exa Z h0 w_READY "com/example/manoa/manoa/core/JobState") (O_READY : Fld Z h0 w_READY "java/lang/Enum" "ordinal" "I" (.int (0 : Int32))) (S_SCHEDULED : Sta Z h0 "com/example/manoa/manoa/core/JobState" "SCHEDULED" "Lcom/example/manoa/manoa/core/JobState;" (.ref w_SCHEDULED)) (E_SCHEDULED : Exa Z h0 w_SCHEDULED "com/example/manoa/manoa/core/JobState") (O_SCHEDULED : Fld Z h0 w_SCHEDULED "java/lang/Enum" "ordinal" "I" (.int (1 : Int32))) (S_RUNNING : Sta Z h0 "com/example/manoa/manoa/core/JobState" "RUNNING" "Lcom/example/manoa/manoa/core/JobState;" (.ref w_RUNNING)) (E_RUNNING : Exa Z h0 w_RUNNING "com/example/manoa/manoa/core/JobState") (O_RUNNING : Fld Z h0 w_RUNNING "java/lang/Enum" "ordinal" "I" (.int (2 : Int32))) (S_SUCCEEDED : Sta Z h0 "com/example/manoa/manoa/core/JobState" "SUCCEEDED" "Lcom/example/manoa/manoa/core/JobState;" (.ref w_SUCCEEDED)) (E_SUCCEEDED : Exa Z h0 w_SUCCEEDED "com/example/manoa/manoa/core/JobState") (O_SUCCEEDED : Fld Z h0 w_SUCCEEDED "java/lang/Enum" "ordinal" "I" (.int (3 : Int32))) (S_DEAD : Sta Z h0 "com/example/manoa/manoa/core/JobState" "DEAD" "Lcom/example/manoa/manoa/core/JobState;" (.ref w_DEAD)) (E_DEAD : Exa Z h0 w_DEAD "com/example/manoa/manoa/core/JobState") (O_DEAD : Fld Z h0 w_DEAD "java/lang/Enum" "ordinal" "I" (.int (4 : Int32))) :
    own_Met l Z x (Jvm.Cond.code x code maxLocals ret :: tables_1) room_1 #[(.int p1)] h0 (own_F (some (.int 1)) h0.size) := by
  refine MetFree.of_bodySF (plainFor_of_name pn_1) hisR ?_
  intro p e s m args below meth c s₁ Bd hml0 hP hK
  obtain ⟨rfl, hZ, hh⟩ := hP
  have hx := Bd.exec
  have hby := Bd.bytes
  have hml : c.maxLocals = 4 := hml0
  have hown : s.vm.findClass "com/example/manoa/manoa/core/JobStateIsFinishedPinLaw" = some m.cls := findClass_of_methodNamed Bd.named
  have hnm := (name_of_methodNamed Bd.named Bd.method).1
  have hlk : meth.locks = false := BodyLoose.notSynchronized Bd
  have X0 : Stand p l e room_1 s m #[(.int p1)] below meth c s₁ [] 0 0 := Stand.of_body Bd
  have e0 : s₁.heap = h0 := by rw [← hh, Bd.state]; rfl
  show own_Go p e below (own_End s (own_F (some (.int 1)) h0.size) 0 0) s₁ (entryFrame m #[(.int p1)] maxLocals)
  refine own_start (g' := mkF m 0 #[.val (.int p1), .unset, .unset, .unset] []) (by first | rfl | (simp [entryFrame, mkF, argsToLocals, Value.category, maxLocals]; done)) ?_
  have ne_READY_SUCCEEDED : ¬ w_READY = w_SUCCEEDED := Fld.ne O_READY O_SUCCEEDED (by simp)
  have ne_READY_DEAD : ¬ w_READY = w_DEAD := Fld.ne O_READY O_DEAD (by simp)
  have ne_SCHEDULED_SUCCEEDED : ¬ w_SCHEDULED = w_SUCCEEDED := Fld.ne O_SCHEDULED O_SUCCEEDED (by simp)
  have ne_SCHEDULED_DEAD : ¬ w_SCHEDULED = w_DEAD := Fld.ne O_SCHEDULED O_DEAD (by simp)
  have ne_RUNNING_SUCCEEDED : ¬ w_RUNNING = w_SUCCEEDED := Fld.ne O_RUNNING O_SUCCEEDED (by simp)
  have ne_RUNNING_DEAD : ¬ w_RUNNING = w_DEAD := Fld.ne O_RUNNING O_DEAD (by simp)
  refine own_via (T' := s₁) (g' := (mkF m 1 #[.val (.int p1), .unset, .unset, .unset] [(.int p1)])) (fun t k => XS.iloadN X0.here hx rfl (hb hby at_0) rfl k) ?_
  refine own_via (T' := s₁) (g' := (mkF m 3 #[.val (.int p1), .unset, .unset, .unset] [(.int (2147483647 : Int32)), (.int p1)])) (fun t k => Stand.ldcI (g := (mkF m 1 #[.val (.int p1), .unset, .unset, .unset] [(.int p1)])) X0 hx hown (mvT hZ (hw _ (List.mem_of_getElem? (i := 0) rfl))) rfl (hb hby at_1) k) ?_
  refine own_via (T' := s₁) (g' := (mkF m 4 #[.val (.int p1), .unset, .unset, .unset] [(.int (p1 &&& (2147483647 : Int32)))])) (fun t k => XS.iand X0.here hx rfl (hb hby at_3) rfl k) ?_
  refine own_via (T' := s₁) (g' := (mkF m 5 #[.val (.int p1), .unset, .unset, .unset] [(.int (5 : Int32)), (.int (p1 &&& (2147483647 : Int32)))])) (fun t k => XS.iconst X0.here hx rfl (hb hby at_4) k) ?_
  refine own_via (T' := s₁) (g' := (mkF m 6 #[.val (.int p1), .unset, .unset, .unset] [(.int ((p1 &&& (2147483647 : Int32)) % (5 : Int32)))])) (fun t k => iremM X0 hx rfl (hb hby at_5) rfl (by decide) k) ?_
  generalize hk : ((p1 &&& (2147483647 : Int32)) % (5 : Int32)) = k
  rcases own_mod5 p1 k hk with rfl | rfl | rfl | rfl | rfl
  · refine own_via (T' := s₁) (g' := (mkF m 7 #[.val (.int p1), .val (.int (0 : Int32)), .unset, .unset] [])) (fun t k => XS.istoreN X0.here hx rfl (hb hby at_6) rfl (l' := #[.val (.int p1), .val (.int (0 : Int32)), .unset, .unset]) rfl k) ?_
    refine own_via (T' := s₁) (g' := (mkF m 8 #[.val (.int p1), .val (.int (0 : Int32)), .unset, .unset] [(.int (0 : Int32))])) (fun t k => XS.iloadN X0.here hx rfl (hb hby at_7) rfl k) ?_
    refine own_via (T' := s₁) (g' := (mkF m 11 #[.val (.int p1), .val (.int (0 : Int32)), .unset, .unset] [])) (fun t k => XS.ifNo X0.here hx rfl (hb hby at_8) rfl ((if0 _ _).trans (teq rfl).2) k) ?_
    obtain ⟨T1, X1, e1, st1⟩ := getS2 X0 hx hZ hown (host := "") (Or.inl (hw _ (List.mem_of_getElem? (i := 1) rfl))) Via.refl e0 S_READY (g := (mkF m 11 #[.val (.int p1), .val (.int (0 : Int32)), .unset, .unset] [])) rfl (hb hby at_11)
    refine own_via (T' := T1) (g' := (mkF m 14 #[.val (.int p1), .val (.int (0 : Int32)), .unset, .unset] [(.ref w_READY)])) st1 ?_
    refine own_via (T' := T1) (g' := (mkF m 15 #[.val (.int p1), .val (.int (0 : Int32)), .val (.ref w_READY), .unset] [])) (fun t k => XS.astoreN X1.here hx rfl (hb hby at_14) rfl rfl (l' := #[.val (.int p1), .val (.int (0 : Int32)), .val (.ref w_READY), .unset]) rfl k) ?_
    refine own_via (T' := T1) (g' := (mkF m 16 #[.val (.int p1), .val (.int (0 : Int32)), .val (.ref w_READY), .unset] [(.int (0 : Int32))])) (fun t k => XS.iconst X1.here hx rfl (hb hby at_15) k) ?_
    refine own_via (T' := T1) (g' := (mkF m 17 #[.val (.int p1), .val (.int (0 : Int32)), .val (.ref w_READY), .val (.int (0 : Int32))] [])) (fun t k => XS.istoreN X1.here hx rfl (hb hby at_16) rfl (l' := #[.val (.int p1), .val (.int (0 : Int32)), .val (.ref w_READY), .val (.int (0 : Int32))]) rfl k) ?_
    refine own_via (T' := T1) (g' := (mkF m 68 #[.val (.int p1), .val (.int (0 : Int32)), .val (.ref w_READY), .val (.int (0 : Int32))] [])) (fun t k => XS.goto X1.here hx rfl (pc0 := 17) (pc' := 68) rfl (hb hby at_17) (by decide) (by decide) k) ?_
    refine own_via (T' := T1) (g' := (mkF m 69 #[.val (.int p1), .val (.int (0 : Int32)), .val (.ref w_READY), .val (.int (0 : Int32))] [(.ref w_READY)])) (fun t k => XS.aloadN X1.here hx rfl (hb hby at_68) rfl rfl k) ?_
    obtain ⟨T2, X2, e2, st2⟩ := own_callV (W := 0) (r := (some (.int (0 : Int32)))) (y := (⟨"com/example/manoa/manoa/core/JobState", "isFinished", "()Z"⟩ : MethodName)) (z := (⟨"com/example/manoa/manoa/core/JobState", "isFinished", "()Z"⟩ : MethodName)) X1 hx hZ hown (hw _ (List.mem_of_getElem? (i := 4) rfl)) (hw _ (List.mem_of_getElem? (i := 5) rfl)) (notFace_of_selects (args := #[]) (mvT hZ (hw _ (List.mem_of_getElem? (i := 7) rfl)))) (hw _ (List.mem_of_getElem? (i := 7) rfl)) (hw _ (List.mem_of_getElem? (i := 6) rfl)) (by decide) (hw _ (List.mem_of_getElem? (i := 8) rfl)) (hw _ (List.mem_of_getElem? (i := 2) rfl)) (own_c1 l Z a0 hw w_READY w_SUCCEEDED w_DEAD (0 : Int32) h0 S_SUCCEEDED S_DEAD (by simp [own_isFin, ne_READY_SUCCEEDED, ne_READY_DEAD])) e1 E_READY (by decide) (by decide) (by decide) (by decide) (g := (mkF m 69 #[.val (.int p1), .val (.int (0 : Int32)), .val (.ref w_READY), .val (.int (0 : Int32))] [(.ref w_READY)])) rfl (by rw [hml]; rfl) (argsL := []) (rest := []) (lenOf pd_10 rfl) rfl (by show 2 * 0 + _ ≤ _; exact Nat.le_of_eq rfl) (hb hby at_69) rfl
    refine own_via (T' := T2) (g' := (mkF m 72 #[.val (.int p1), .val (.int (0 : Int32)), .val (.ref w_READY), .val (.int (0 : Int32))] [(.int (0 : Int32))])) st2 ?_
    refine own_via (T' := T2) (g' := (mkF m 73 #[.val (.int p1), .val (.int (0 : Int32)), .val (.ref w_READY), .val (.int (0 : Int32))] [(.int (0 : Int32)), (.int (0 : Int32))])) (fun t k => XS.iloadN X2.here hx rfl (hb hby at_72) rfl k) ?_
    refine own_via (T' := T2) (g' := (mkF m 76 #[.val (.int p1), .val (.int (0 : Int32)), .val (.ref w_READY), .val (.int (0 : Int32))] [])) (fun t k => XS.icmpNo X2.here hx rfl (hb hby at_73) rfl (teq rfl).2 k) ?_
    refine own_via (T' := T2) (g' := (mkF m 77 #[.val (.int p1), .val (.int (0 : Int32)), .val (.ref w_READY), .val (.int (0 : Int32))] [(.int (1 : Int32))])) (fun t k => XS.iconst X2.here hx rfl (hb hby at_76) k) ?_
    refine own_via (T' := T2) (g' := (mkF m 81 #[.val (.int p1), .val (.int (0 : Int32)), .val (.ref w_READY), .val (.int (0 : Int32))] [(.int (1 : Int32))])) (fun t k => XS.goto X2.here hx rfl (pc0 := 77) (pc' := 81) rfl (hb hby at_77) (by decide) (by decide) k) ?_
    exact own_ret (t := .boolean) X2 hx Bd.returns hlk rfl (Or.inl ⟨rfl, by simp, _, rfl⟩) (hb hby at_81) (by decide) (by decide) ⟨rfl, Fr.nil _⟩
  · refine own_via (T' := s₁) (g' := (mkF m 7 #[.val (.int p1), .val (.int (1 : Int32)), .unset, .unset] [])) (fun t k => XS.istoreN X0.here hx rfl (hb hby at_6) rfl (l' := #[.val (.int p1), .val (.int (1 : Int32)), .unset, .unset]) rfl k) ?_
    refine own_via (T' := s₁) (g' := (mkF m 8 #[.val (.int p1), .val (.int (1 : Int32)), .unset, .unset] [(.int (1 : Int32))])) (fun t k => XS.iloadN X0.here hx rfl (hb hby at_7) rfl k) ?_
    refine own_via (T' := s₁) (g' := (mkF m 20 #[.val (.int p1), .val (.int (1 : Int32)), .unset, .unset] [])) (fun t k => XS.ifYes X0.here hx rfl (pc0 := 8) (pc' := 20) rfl (hb hby at_8) rfl ((if0 _ _).trans (feq (by decide)).2) (by decide) (by decide) k) ?_
    refine own_via (T' := s₁) (g' := (mkF m 21 #[.val (.int p1), .val (.int (1 : Int32)), .unset, .unset] [(.int (1 : Int32))])) (fun t k => XS.iloadN X0.here hx rfl (hb hby at_20) rfl k) ?_
    refine own_via (T' := s₁) (g' := (mkF m 22 #[.val (.int p1), .val (.int (1 : Int32)), .unset, .unset] [(.int (1 : Int32)), (.int (1 : Int32))])) (fun t k => XS.iconst X0.here hx rfl (hb hby at_21) k) ?_
    refine own_via (T' := s₁) (g' := (mkF m 25 #[.val (.int p1), .val (.int (1 : Int32)), .unset, .unset] [])) (fun t k => XS.icmpNo X0.here hx rfl (hb hby at_22) rfl (teq rfl).2 k) ?_
    obtain ⟨T3, X3, e3, st3⟩ := getS2 X0 hx hZ hown (host := "") (Or.inl (hw _ (List.mem_of_getElem? (i := 14) rfl))) Via.refl e0 S_SCHEDULED (g := (mkF m 25 #[.val (.int p1), .val (.int (1 : Int32)), .unset, .unset] [])) rfl (hb hby at_25)
    refine own_via (T' := T3) (g' := (mkF m 28 #[.val (.int p1), .val (.int (1 : Int32)), .unset, .unset] [(.ref w_SCHEDULED)])) st3 ?_
    refine own_via (T' := T3) (g' := (mkF m 29 #[.val (.int p1), .val (.int (1 : Int32)), .val (.ref w_SCHEDULED), .unset] [])) (fun t k => XS.astoreN X3.here hx rfl (hb hby at_28) rfl rfl (l' := #[.val (.int p1), .val (.int (1 : Int32)), .val (.ref w_SCHEDULED), .unset]) rfl k) ?_
    refine own_via (T' := T3) (g' := (mkF m 30 #[.val (.int p1), .val (.int (1 : Int32)), .val (.ref w_SCHEDULED), .unset] [(.int (0 : Int32))])) (fun t k => XS.iconst X3.here hx rfl (hb hby at_29) k) ?_
    refine own_via (T' := T3) (g' := (mkF m 31 #[.val (.int p1), .val (.int (1 : Int32)), .val (.ref w_SCHEDULED), .val (.int (0 : Int32))] [])) (fun t k => XS.istoreN X3.here hx rfl (hb hby at_30) rfl (l' := #[.val (.int p1), .val (.int (1 : Int32)), .val (.ref w_SCHEDULED), .val (.int (0 : Int32))]) rfl k) ?_
    refine own_via (T' := T3) (g' := (mkF m 68 #[.val (.int p1), .val (.int (1 : Int32)), .val (.ref w_SCHEDULED), .val (.int (0 : Int32))] [])) (fun t k => XS.goto X3.here hx rfl (pc0 := 31) (pc' := 68) rfl (hb hby at_31) (by decide) (by decide) k) ?_
    refine own_via (T' := T3) (g' := (mkF m 69 #[.val (.int p1), .val (.int (1 : Int32)), .val (.ref w_SCHEDULED), .val (.int (0 : Int32))] [(.ref w_SCHEDULED)])) (fun t k => XS.aloadN X3.here hx rfl (hb hby at_68) rfl rfl k) ?_
    obtain ⟨T4, X4, e4, st4⟩ := own_callV (W := 0) (r := (some (.int (0 : Int32)))) (y := (⟨"com/example/manoa/manoa/core/JobState", "isFinished", "()Z"⟩ : MethodName)) (z := (⟨"com/example/manoa/manoa/core/JobState", "isFinished", "()Z"⟩ : MethodName)) X3 hx hZ hown (hw _ (List.mem_of_getElem? (i := 4) rfl)) (hw _ (List.mem_of_getElem? (i := 5) rfl)) (notFace_of_selects (args := #[]) (mvT hZ (hw _ (List.mem_of_getElem? (i := 7) rfl)))) (hw _ (List.mem_of_getElem? (i := 7) rfl)) (hw _ (List.mem_of_getElem? (i := 6) rfl)) (by decide) (hw _ (List.mem_of_getElem? (i := 8) rfl)) (hw _ (List.mem_of_getElem? (i := 2) rfl)) (own_c1 l Z a0 hw w_SCHEDULED w_SUCCEEDED w_DEAD (0 : Int32) h0 S_SUCCEEDED S_DEAD (by simp [own_isFin, ne_SCHEDULED_SUCCEEDED, ne_SCHEDULED_DEAD])) e3 E_SCHEDULED (by decide) (by decide) (by decide) (by decide) (g := (mkF m 69 #[.val (.int p1), .val (.int (1 : Int32)), .val (.ref w_SCHEDULED), .val (.int (0 : Int32))] [(.ref w_SCHEDULED)])) rfl (by rw [hml]; rfl) (argsL := []) (rest := []) (lenOf pd_10 rfl) rfl (by show 2 * 0 + _ ≤ _; exact Nat.le_of_eq rfl) (hb hby at_69) rfl
    refine own_via (T' := T4) (g' := (mkF m 72 #[.val (.int p1), .val (.int (1 : Int32)), .val (.ref w_SCHEDULED), .val (.int (0 : Int32))] [(.int (0 : Int32))])) st4 ?_
    refine own_via (T' := T4) (g' := (mkF m 73 #[.val (.int p1), .val (.int (1 : Int32)), .val (.ref w_SCHEDULED), .val (.int (0 : Int32))] [(.int (0 : Int32)), (.int (0 : Int32))])) (fun t k => XS.iloadN X4.here hx rfl (hb hby at_72) rfl k) ?_
    refine own_via (T' := T4) (g' := (mkF m 76 #[.val (.int p1), .val (.int (1 : Int32)), .val (.ref w_SCHEDULED), .val (.int (0 : Int32))] [])) (fun t k => XS.icmpNo X4.here hx rfl (hb hby at_73) rfl (teq rfl).2 k) ?_
    refine own_via (T' := T4) (g' := (mkF m 77 #[.val (.int p1), .val (.int (1 : Int32)), .val (.ref w_SCHEDULED), .val (.int (0 : Int32))] [(.int (1 : Int32))])) (fun t k => XS.iconst X4.here hx rfl (hb hby at_76) k) ?_
    refine own_via (T' := T4) (g' := (mkF m 81 #[.val (.int p1), .val (.int (1 : Int32)), .val (.ref w_SCHEDULED), .val (.int (0 : Int32))] [(.int (1 : Int32))])) (fun t k => XS.goto X4.here hx rfl (pc0 := 77) (pc' := 81) rfl (hb hby at_77) (by decide) (by decide) k) ?_
    exact own_ret (t := .boolean) X4 hx Bd.returns hlk rfl (Or.inl ⟨rfl, by simp, _, rfl⟩) (hb hby at_81) (by decide) (by decide) ⟨rfl, Fr.nil _⟩
  · refine own_via (T' := s₁) (g' := (mkF m 7 #[.val (.int p1), .val (.int (2 : Int32)), .unset, .unset] [])) (fun t k => XS.istoreN X0.here hx rfl (hb hby at_6) rfl (l' := #[.val (.int p1), .val (.int (2 : Int32)), .unset, .unset]) rfl k) ?_
    refine own_via (T' := s₁) (g' := (mkF m 8 #[.val (.int p1), .val (.int (2 : Int32)), .unset, .unset] [(.int (2 : Int32))])) (fun t k => XS.iloadN X0.here hx rfl (hb hby at_7) rfl k) ?_
    refine own_via (T' := s₁) (g' := (mkF m 20 #[.val (.int p1), .val (.int (2 : Int32)), .unset, .unset] [])) (fun t k => XS.ifYes X0.here hx rfl (pc0 := 8) (pc' := 20) rfl (hb hby at_8) rfl ((if0 _ _).trans (feq (by decide)).2) (by decide) (by decide) k) ?_
    refine own_via (T' := s₁) (g' := (mkF m 21 #[.val (.int p1), .val (.int (2 : Int32)), .unset, .unset] [(.int (2 : Int32))])) (fun t k => XS.iloadN X0.here hx rfl (hb hby at_20) rfl k) ?_
    refine own_via (T' := s₁) (g' := (mkF m 22 #[.val (.int p1), .val (.int (2 : Int32)), .unset, .unset] [(.int (1 : Int32)), (.int (2 : Int32))])) (fun t k => XS.iconst X0.here hx rfl (hb hby at_21) k) ?_
    refine own_via (T' := s₁) (g' := (mkF m 34 #[.val (.int p1), .val (.int (2 : Int32)), .unset, .unset] [])) (fun t k => XS.icmpYes X0.here hx rfl (pc0 := 22) (pc' := 34) rfl (hb hby at_22) rfl (feq (by decide)).2 (by decide) (by decide) k) ?_
    refine own_via (T' := s₁) (g' := (mkF m 35 #[.val (.int p1), .val (.int (2 : Int32)), .unset, .unset] [(.int (2 : Int32))])) (fun t k => XS.iloadN X0.here hx rfl (hb hby at_34) rfl k) ?_
    refine own_via (T' := s₁) (g' := (mkF m 36 #[.val (.int p1), .val (.int (2 : Int32)), .unset, .unset] [(.int (2 : Int32)), (.int (2 : Int32))])) (fun t k => XS.iconst X0.here hx rfl (hb hby at_35) k) ?_
    refine own_via (T' := s₁) (g' := (mkF m 39 #[.val (.int p1), .val (.int (2 : Int32)), .unset, .unset] [])) (fun t k => XS.icmpNo X0.here hx rfl (hb hby at_36) rfl (teq rfl).2 k) ?_
    obtain ⟨T5, X5, e5, st5⟩ := getS2 X0 hx hZ hown (host := "") (Or.inl (hw _ (List.mem_of_getElem? (i := 17) rfl))) Via.refl e0 S_RUNNING (g := (mkF m 39 #[.val (.int p1), .val (.int (2 : Int32)), .unset, .unset] [])) rfl (hb hby at_39)
    refine own_via (T' := T5) (g' := (mkF m 42 #[.val (.int p1), .val (.int (2 : Int32)), .unset, .unset] [(.ref w_RUNNING)])) st5 ?_
    refine own_via (T' := T5) (g' := (mkF m 43 #[.val (.int p1), .val (.int (2 : Int32)), .val (.ref w_RUNNING), .unset] [])) (fun t k => XS.astoreN X5.here hx rfl (hb hby at_42) rfl rfl (l' := #[.val (.int p1), .val (.int (2 : Int32)), .val (.ref w_RUNNING), .unset]) rfl k) ?_
    refine own_via (T' := T5) (g' := (mkF m 44 #[.val (.int p1), .val (.int (2 : Int32)), .val (.ref w_RUNNING), .unset] [(.int (0 : Int32))])) (fun t k => XS.iconst X5.here hx rfl (hb hby at_43) k) ?_
    refine own_via (T' := T5) (g' := (mkF m 45 #[.val (.int p1), .val (.int (2 : Int32)), .val (.ref w_RUNNING), .val (.int (0 : Int32))] [])) (fun t k => XS.istoreN X5.here hx rfl (hb hby at_44) rfl (l' := #[.val (.int p1), .val (.int (2 : Int32)), .val (.ref w_RUNNING), .val (.int (0 : Int32))]) rfl k) ?_
    refine own_via (T' := T5) (g' := (mkF m 68 #[.val (.int p1), .val (.int (2 : Int32)), .val (.ref w_RUNNING), .val (.int (0 : Int32))] [])) (fun t k => XS.goto X5.here hx rfl (pc0 := 45) (pc' := 68) rfl (hb hby at_45) (by decide) (by decide) k) ?_
    refine own_via (T' := T5) (g' := (mkF m 69 #[.val (.int p1), .val (.int (2 : Int32)), .val (.ref w_RUNNING), .val (.int (0 : Int32))] [(.ref w_RUNNING)])) (fun t k => XS.aloadN X5.here hx rfl (hb hby at_68) rfl rfl k) ?_
    obtain ⟨T6, X6, e6, st6⟩ := own_callV (W := 0) (r := (some (.int (0 : Int32)))) (y := (⟨"com/example/manoa/manoa/core/JobState", "isFinished", "()Z"⟩ : MethodName)) (z := (⟨"com/example/manoa/manoa/core/JobState", "isFinished", "()Z"⟩ : MethodName)) X5 hx hZ hown (hw _ (List.mem_of_getElem? (i := 4) rfl)) (hw _ (List.mem_of_getElem? (i := 5) rfl)) (notFace_of_selects (args := #[]) (mvT hZ (hw _ (List.mem_of_getElem? (i := 7) rfl)))) (hw _ (List.mem_of_getElem? (i := 7) rfl)) (hw _ (List.mem_of_getElem? (i := 6) rfl)) (by decide) (hw _ (List.mem_of_getElem? (i := 8) rfl)) (hw _ (List.mem_of_getElem? (i := 2) rfl)) (own_c1 l Z a0 hw w_RUNNING w_SUCCEEDED w_DEAD (0 : Int32) h0 S_SUCCEEDED S_DEAD (by simp [own_isFin, ne_RUNNING_SUCCEEDED, ne_RUNNING_DEAD])) e5 E_RUNNING (by decide) (by decide) (by decide) (by decide) (g := (mkF m 69 #[.val (.int p1), .val (.int (2 : Int32)), .val (.ref w_RUNNING), .val (.int (0 : Int32))] [(.ref w_RUNNING)])) rfl (by rw [hml]; rfl) (argsL := []) (rest := []) (lenOf pd_10 rfl) rfl (by show 2 * 0 + _ ≤ _; exact Nat.le_of_eq rfl) (hb hby at_69) rfl
    refine own_via (T' := T6) (g' := (mkF m 72 #[.val (.int p1), .val (.int (2 : Int32)), .val (.ref w_RUNNING), .val (.int (0 : Int32))] [(.int (0 : Int32))])) st6 ?_
    refine own_via (T' := T6) (g' := (mkF m 73 #[.val (.int p1), .val (.int (2 : Int32)), .val (.ref w_RUNNING), .val (.int (0 : Int32))] [(.int (0 : Int32)), (.int (0 : Int32))])) (fun t k => XS.iloadN X6.here hx rfl (hb hby at_72) rfl k) ?_
    refine own_via (T' := T6) (g' := (mkF m 76 #[.val (.int p1), .val (.int (2 : Int32)), .val (.ref w_RUNNING), .val (.int (0 : Int32))] [])) (fun t k => XS.icmpNo X6.here hx rfl (hb hby at_73) rfl (teq rfl).2 k) ?_
    refine own_via (T' := T6) (g' := (mkF m 77 #[.val (.int p1), .val (.int (2 : Int32)), .val (.ref w_RUNNING), .val (.int (0 : Int32))] [(.int (1 : Int32))])) (fun t k => XS.iconst X6.here hx rfl (hb hby at_76) k) ?_
    refine own_via (T' := T6) (g' := (mkF m 81 #[.val (.int p1), .val (.int (2 : Int32)), .val (.ref w_RUNNING), .val (.int (0 : Int32))] [(.int (1 : Int32))])) (fun t k => XS.goto X6.here hx rfl (pc0 := 77) (pc' := 81) rfl (hb hby at_77) (by decide) (by decide) k) ?_
    exact own_ret (t := .boolean) X6 hx Bd.returns hlk rfl (Or.inl ⟨rfl, by simp, _, rfl⟩) (hb hby at_81) (by decide) (by decide) ⟨rfl, Fr.nil _⟩
  · refine own_via (T' := s₁) (g' := (mkF m 7 #[.val (.int p1), .val (.int (3 : Int32)), .unset, .unset] [])) (fun t k => XS.istoreN X0.here hx rfl (hb hby at_6) rfl (l' := #[.val (.int p1), .val (.int (3 : Int32)), .unset, .unset]) rfl k) ?_
    refine own_via (T' := s₁) (g' := (mkF m 8 #[.val (.int p1), .val (.int (3 : Int32)), .unset, .unset] [(.int (3 : Int32))])) (fun t k => XS.iloadN X0.here hx rfl (hb hby at_7) rfl k) ?_
    refine own_via (T' := s₁) (g' := (mkF m 20 #[.val (.int p1), .val (.int (3 : Int32)), .unset, .unset] [])) (fun t k => XS.ifYes X0.here hx rfl (pc0 := 8) (pc' := 20) rfl (hb hby at_8) rfl ((if0 _ _).trans (feq (by decide)).2) (by decide) (by decide) k) ?_
    refine own_via (T' := s₁) (g' := (mkF m 21 #[.val (.int p1), .val (.int (3 : Int32)), .unset, .unset] [(.int (3 : Int32))])) (fun t k => XS.iloadN X0.here hx rfl (hb hby at_20) rfl k) ?_
    refine own_via (T' := s₁) (g' := (mkF m 22 #[.val (.int p1), .val (.int (3 : Int32)), .unset, .unset] [(.int (1 : Int32)), (.int (3 : Int32))])) (fun t k => XS.iconst X0.here hx rfl (hb hby at_21) k) ?_
    refine own_via (T' := s₁) (g' := (mkF m 34 #[.val (.int p1), .val (.int (3 : Int32)), .unset, .unset] [])) (fun t k => XS.icmpYes X0.here hx rfl (pc0 := 22) (pc' := 34) rfl (hb hby at_22) rfl (feq (by decide)).2 (by decide) (by decide) k) ?_
    refine own_via (T' := s₁) (g' := (mkF m 35 #[.val (.int p1), .val (.int (3 : Int32)), .unset, .unset] [(.int (3 : Int32))])) (fun t k => XS.iloadN X0.here hx rfl (hb hby at_34) rfl k) ?_
    refine own_via (T' := s₁) (g' := (mkF m 36 #[.val (.int p1), .val (.int (3 : Int32)), .unset, .unset] [(.int (2 : Int32)), (.int (3 : Int32))])) (fun t k => XS.iconst X0.here hx rfl (hb hby at_35) k) ?_
    refine own_via (T' := s₁) (g' := (mkF m 48 #[.val (.int p1), .val (.int (3 : Int32)), .unset, .unset] [])) (fun t k => XS.icmpYes X0.here hx rfl (pc0 := 36) (pc' := 48) rfl (hb hby at_36) rfl (feq (by decide)).2 (by decide) (by decide) k) ?_
    refine own_via (T' := s₁) (g' := (mkF m 49 #[.val (.int p1), .val (.int (3 : Int32)), .unset, .unset] [(.int (3 : Int32))])) (fun t k => XS.iloadN X0.here hx rfl (hb hby at_48) rfl k) ?_
    refine own_via (T' := s₁) (g' := (mkF m 50 #[.val (.int p1), .val (.int (3 : Int32)), .unset, .unset] [(.int (3 : Int32)), (.int (3 : Int32))])) (fun t k => XS.iconst X0.here hx rfl (hb hby at_49) k) ?_
    refine own_via (T' := s₁) (g' := (mkF m 53 #[.val (.int p1), .val (.int (3 : Int32)), .unset, .unset] [])) (fun t k => XS.icmpNo X0.here hx rfl (hb hby at_50) rfl (teq rfl).2 k) ?_
    obtain ⟨T7, X7, e7, st7⟩ := getS2 X0 hx hZ hown (host := "") (Or.inl (hw _ (List.mem_of_getElem? (i := 13) rfl))) Via.refl e0 S_SUCCEEDED (g := (mkF m 53 #[.val (.int p1), .val (.int (3 : Int32)), .unset, .unset] [])) rfl (hb hby at_53)
    refine own_via (T' := T7) (g' := (mkF m 56 #[.val (.int p1), .val (.int (3 : Int32)), .unset, .unset] [(.ref w_SUCCEEDED)])) st7 ?_
    refine own_via (T' := T7) (g' := (mkF m 57 #[.val (.int p1), .val (.int (3 : Int32)), .val (.ref w_SUCCEEDED), .unset] [])) (fun t k => XS.astoreN X7.here hx rfl (hb hby at_56) rfl rfl (l' := #[.val (.int p1), .val (.int (3 : Int32)), .val (.ref w_SUCCEEDED), .unset]) rfl k) ?_
    refine own_via (T' := T7) (g' := (mkF m 58 #[.val (.int p1), .val (.int (3 : Int32)), .val (.ref w_SUCCEEDED), .unset] [(.int (1 : Int32))])) (fun t k => XS.iconst X7.here hx rfl (hb hby at_57) k) ?_
    refine own_via (T' := T7) (g' := (mkF m 59 #[.val (.int p1), .val (.int (3 : Int32)), .val (.ref w_SUCCEEDED), .val (.int (1 : Int32))] [])) (fun t k => XS.istoreN X7.here hx rfl (hb hby at_58) rfl (l' := #[.val (.int p1), .val (.int (3 : Int32)), .val (.ref w_SUCCEEDED), .val (.int (1 : Int32))]) rfl k) ?_
    refine own_via (T' := T7) (g' := (mkF m 68 #[.val (.int p1), .val (.int (3 : Int32)), .val (.ref w_SUCCEEDED), .val (.int (1 : Int32))] [])) (fun t k => XS.goto X7.here hx rfl (pc0 := 59) (pc' := 68) rfl (hb hby at_59) (by decide) (by decide) k) ?_
    refine own_via (T' := T7) (g' := (mkF m 69 #[.val (.int p1), .val (.int (3 : Int32)), .val (.ref w_SUCCEEDED), .val (.int (1 : Int32))] [(.ref w_SUCCEEDED)])) (fun t k => XS.aloadN X7.here hx rfl (hb hby at_68) rfl rfl k) ?_
    obtain ⟨T8, X8, e8, st8⟩ := own_callV (W := 0) (r := (some (.int (1 : Int32)))) (y := (⟨"com/example/manoa/manoa/core/JobState", "isFinished", "()Z"⟩ : MethodName)) (z := (⟨"com/example/manoa/manoa/core/JobState", "isFinished", "()Z"⟩ : MethodName)) X7 hx hZ hown (hw _ (List.mem_of_getElem? (i := 4) rfl)) (hw _ (List.mem_of_getElem? (i := 5) rfl)) (notFace_of_selects (args := #[]) (mvT hZ (hw _ (List.mem_of_getElem? (i := 7) rfl)))) (hw _ (List.mem_of_getElem? (i := 7) rfl)) (hw _ (List.mem_of_getElem? (i := 6) rfl)) (by decide) (hw _ (List.mem_of_getElem? (i := 8) rfl)) (hw _ (List.mem_of_getElem? (i := 2) rfl)) (own_c1 l Z a0 hw w_SUCCEEDED w_SUCCEEDED w_DEAD (1 : Int32) h0 S_SUCCEEDED S_DEAD (by simp [own_isFin])) e7 E_SUCCEEDED (by decide) (by decide) (by decide) (by decide) (g := (mkF m 69 #[.val (.int p1), .val (.int (3 : Int32)), .val (.ref w_SUCCEEDED), .val (.int (1 : Int32))] [(.ref w_SUCCEEDED)])) rfl (by rw [hml]; rfl) (argsL := []) (rest := []) (lenOf pd_10 rfl) rfl (by show 2 * 0 + _ ≤ _; exact Nat.le_of_eq rfl) (hb hby at_69) rfl
    refine own_via (T' := T8) (g' := (mkF m 72 #[.val (.int p1), .val (.int (3 : Int32)), .val (.ref w_SUCCEEDED), .val (.int (1 : Int32))] [(.int (1 : Int32))])) st8 ?_
    refine own_via (T' := T8) (g' := (mkF m 73 #[.val (.int p1), .val (.int (3 : Int32)), .val (.ref w_SUCCEEDED), .val (.int (1 : Int32))] [(.int (1 : Int32)), (.int (1 : Int32))])) (fun t k => XS.iloadN X8.here hx rfl (hb hby at_72) rfl k) ?_
    refine own_via (T' := T8) (g' := (mkF m 76 #[.val (.int p1), .val (.int (3 : Int32)), .val (.ref w_SUCCEEDED), .val (.int (1 : Int32))] [])) (fun t k => XS.icmpNo X8.here hx rfl (hb hby at_73) rfl (teq rfl).2 k) ?_
    refine own_via (T' := T8) (g' := (mkF m 77 #[.val (.int p1), .val (.int (3 : Int32)), .val (.ref w_SUCCEEDED), .val (.int (1 : Int32))] [(.int (1 : Int32))])) (fun t k => XS.iconst X8.here hx rfl (hb hby at_76) k) ?_
    refine own_via (T' := T8) (g' := (mkF m 81 #[.val (.int p1), .val (.int (3 : Int32)), .val (.ref w_SUCCEEDED), .val (.int (1 : Int32))] [(.int (1 : Int32))])) (fun t k => XS.goto X8.here hx rfl (pc0 := 77) (pc' := 81) rfl (hb hby at_77) (by decide) (by decide) k) ?_
    exact own_ret (t := .boolean) X8 hx Bd.returns hlk rfl (Or.inl ⟨rfl, by simp, _, rfl⟩) (hb hby at_81) (by decide) (by decide) ⟨rfl, Fr.nil _⟩
  · refine own_via (T' := s₁) (g' := (mkF m 7 #[.val (.int p1), .val (.int (4 : Int32)), .unset, .unset] [])) (fun t k => XS.istoreN X0.here hx rfl (hb hby at_6) rfl (l' := #[.val (.int p1), .val (.int (4 : Int32)), .unset, .unset]) rfl k) ?_
    refine own_via (T' := s₁) (g' := (mkF m 8 #[.val (.int p1), .val (.int (4 : Int32)), .unset, .unset] [(.int (4 : Int32))])) (fun t k => XS.iloadN X0.here hx rfl (hb hby at_7) rfl k) ?_
    refine own_via (T' := s₁) (g' := (mkF m 20 #[.val (.int p1), .val (.int (4 : Int32)), .unset, .unset] [])) (fun t k => XS.ifYes X0.here hx rfl (pc0 := 8) (pc' := 20) rfl (hb hby at_8) rfl ((if0 _ _).trans (feq (by decide)).2) (by decide) (by decide) k) ?_
    refine own_via (T' := s₁) (g' := (mkF m 21 #[.val (.int p1), .val (.int (4 : Int32)), .unset, .unset] [(.int (4 : Int32))])) (fun t k => XS.iloadN X0.here hx rfl (hb hby at_20) rfl k) ?_
    refine own_via (T' := s₁) (g' := (mkF m 22 #[.val (.int p1), .val (.int (4 : Int32)), .unset, .unset] [(.int (1 : Int32)), (.int (4 : Int32))])) (fun t k => XS.iconst X0.here hx rfl (hb hby at_21) k) ?_
    refine own_via (T' := s₁) (g' := (mkF m 34 #[.val (.int p1), .val (.int (4 : Int32)), .unset, .unset] [])) (fun t k => XS.icmpYes X0.here hx rfl (pc0 := 22) (pc' := 34) rfl (hb hby at_22) rfl (feq (by decide)).2 (by decide) (by decide) k) ?_
    refine own_via (T' := s₁) (g' := (mkF m 35 #[.val (.int p1), .val (.int (4 : Int32)), .unset, .unset] [(.int (4 : Int32))])) (fun t k => XS.iloadN X0.here hx rfl (hb hby at_34) rfl k) ?_
    refine own_via (T' := s₁) (g' := (mkF m 36 #[.val (.int p1), .val (.int (4 : Int32)), .unset, .unset] [(.int (2 : Int32)), (.int (4 : Int32))])) (fun t k => XS.iconst X0.here hx rfl (hb hby at_35) k) ?_
    refine own_via (T' := s₁) (g' := (mkF m 48 #[.val (.int p1), .val (.int (4 : Int32)), .unset, .unset] [])) (fun t k => XS.icmpYes X0.here hx rfl (pc0 := 36) (pc' := 48) rfl (hb hby at_36) rfl (feq (by decide)).2 (by decide) (by decide) k) ?_
    refine own_via (T' := s₁) (g' := (mkF m 49 #[.val (.int p1), .val (.int (4 : Int32)), .unset, .unset] [(.int (4 : Int32))])) (fun t k => XS.iloadN X0.here hx rfl (hb hby at_48) rfl k) ?_
    refine own_via (T' := s₁) (g' := (mkF m 50 #[.val (.int p1), .val (.int (4 : Int32)), .unset, .unset] [(.int (3 : Int32)), (.int (4 : Int32))])) (fun t k => XS.iconst X0.here hx rfl (hb hby at_49) k) ?_
    refine own_via (T' := s₁) (g' := (mkF m 62 #[.val (.int p1), .val (.int (4 : Int32)), .unset, .unset] [])) (fun t k => XS.icmpYes X0.here hx rfl (pc0 := 50) (pc' := 62) rfl (hb hby at_50) rfl (feq (by decide)).2 (by decide) (by decide) k) ?_
    obtain ⟨T9, X9, e9, st9⟩ := getS2 X0 hx hZ hown (host := "") (Or.inl (hw _ (List.mem_of_getElem? (i := 16) rfl))) Via.refl e0 S_DEAD (g := (mkF m 62 #[.val (.int p1), .val (.int (4 : Int32)), .unset, .unset] [])) rfl (hb hby at_62)
    refine own_via (T' := T9) (g' := (mkF m 65 #[.val (.int p1), .val (.int (4 : Int32)), .unset, .unset] [(.ref w_DEAD)])) st9 ?_
    refine own_via (T' := T9) (g' := (mkF m 66 #[.val (.int p1), .val (.int (4 : Int32)), .val (.ref w_DEAD), .unset] [])) (fun t k => XS.astoreN X9.here hx rfl (hb hby at_65) rfl rfl (l' := #[.val (.int p1), .val (.int (4 : Int32)), .val (.ref w_DEAD), .unset]) rfl k) ?_
    refine own_via (T' := T9) (g' := (mkF m 67 #[.val (.int p1), .val (.int (4 : Int32)), .val (.ref w_DEAD), .unset] [(.int (1 : Int32))])) (fun t k => XS.iconst X9.here hx rfl (hb hby at_66) k) ?_
    refine own_via (T' := T9) (g' := (mkF m 68 #[.val (.int p1), .val (.int (4 : Int32)), .val (.ref w_DEAD), .val (.int (1 : Int32))] [])) (fun t k => XS.istoreN X9.here hx rfl (hb hby at_67) rfl (l' := #[.val (.int p1), .val (.int (4 : Int32)), .val (.ref w_DEAD), .val (.int (1 : Int32))]) rfl k) ?_
    refine own_via (T' := T9) (g' := (mkF m 69 #[.val (.int p1), .val (.int (4 : Int32)), .val (.ref w_DEAD), .val (.int (1 : Int32))] [(.ref w_DEAD)])) (fun t k => XS.aloadN X9.here hx rfl (hb hby at_68) rfl rfl k) ?_
    obtain ⟨T10, X10, e10, st10⟩ := own_callV (W := 0) (r := (some (.int (1 : Int32)))) (y := (⟨"com/example/manoa/manoa/core/JobState", "isFinished", "()Z"⟩ : MethodName)) (z := (⟨"com/example/manoa/manoa/core/JobState", "isFinished", "()Z"⟩ : MethodName)) X9 hx hZ hown (hw _ (List.mem_of_getElem? (i := 4) rfl)) (hw _ (List.mem_of_getElem? (i := 5) rfl)) (notFace_of_selects (args := #[]) (mvT hZ (hw _ (List.mem_of_getElem? (i := 7) rfl)))) (hw _ (List.mem_of_getElem? (i := 7) rfl)) (hw _ (List.mem_of_getElem? (i := 6) rfl)) (by decide) (hw _ (List.mem_of_getElem? (i := 8) rfl)) (hw _ (List.mem_of_getElem? (i := 2) rfl)) (own_c1 l Z a0 hw w_DEAD w_SUCCEEDED w_DEAD (1 : Int32) h0 S_SUCCEEDED S_DEAD (by simp [own_isFin])) e9 E_DEAD (by decide) (by decide) (by decide) (by decide) (g := (mkF m 69 #[.val (.int p1), .val (.int (4 : Int32)), .val (.ref w_DEAD), .val (.int (1 : Int32))] [(.ref w_DEAD)])) rfl (by rw [hml]; rfl) (argsL := []) (rest := []) (lenOf pd_10 rfl) rfl (by show 2 * 0 + _ ≤ _; exact Nat.le_of_eq rfl) (hb hby at_69) rfl
    refine own_via (T' := T10) (g' := (mkF m 72 #[.val (.int p1), .val (.int (4 : Int32)), .val (.ref w_DEAD), .val (.int (1 : Int32))] [(.int (1 : Int32))])) st10 ?_
    refine own_via (T' := T10) (g' := (mkF m 73 #[.val (.int p1), .val (.int (4 : Int32)), .val (.ref w_DEAD), .val (.int (1 : Int32))] [(.int (1 : Int32)), (.int (1 : Int32))])) (fun t k => XS.iloadN X10.here hx rfl (hb hby at_72) rfl k) ?_
    refine own_via (T' := T10) (g' := (mkF m 76 #[.val (.int p1), .val (.int (4 : Int32)), .val (.ref w_DEAD), .val (.int (1 : Int32))] [])) (fun t k => XS.icmpNo X10.here hx rfl (hb hby at_73) rfl (teq rfl).2 k) ?_
    refine own_via (T' := T10) (g' := (mkF m 77 #[.val (.int p1), .val (.int (4 : Int32)), .val (.ref w_DEAD), .val (.int (1 : Int32))] [(.int (1 : Int32))])) (fun t k => XS.iconst X10.here hx rfl (hb hby at_76) k) ?_
    refine own_via (T' := T10) (g' := (mkF m 81 #[.val (.int p1), .val (.int (4 : Int32)), .val (.ref w_DEAD), .val (.int (1 : Int32))] [(.int (1 : Int32))])) (fun t k => XS.goto X10.here hx rfl (pc0 := 77) (pc' := 81) rfl (hb hby at_77) (by decide) (by decide) k) ?_
    exact own_ret (t := .boolean) X10 hx Bd.returns hlk rfl (Or.inl ⟨rfl, by simp, _, rfl⟩) (hb hby at_81) (by decide) (by decide) ⟨rfl, Fr.nil _⟩
set_option maxRecDepth 65536 in
set_option maxHeartbeats 40000000 in
theorem comes_1 {Post : Tables → Env → Array Value → State → Outcome → State → Prop} (hpost : ∀ tb e args s v u, (limb_1_1.after args s (.returned v) u = true ∧ limb_1_2.after args s (.returned v) u = true ∧ True) → FrameEnd s (.returned v) u (Jvm.fieldLocs frame_1_writes args s ++ Jvm.arrayLocs frame_1_arrays args s ++ Jvm.staticLocs frame_1_statics s) 0 0 → Post tb e args s (.returned v) u) :
    ArmFor flags0 classFile x code maxLocals ret World_1 tables_1 room_1 Calls_1 rest_1 Pre_1 Post := by
  intro l hfl _ _ p e ha hc hk s m args below hf hA hF happ hP
  obtain ⟨hcalls, hrest, hpre⟩ := hP
  obtain ⟨-, -, -, hnamed, -, -, -, hat⟩ := (Spec.applies_iff hf).mp happ
  obtain ⟨hg, hn⟩ := and_e (Cond.before_iff.mp (show (Jvm.Cond.and given_1 narrow_1).before args s = true from hpre))
  obtain ⟨g1a, g1b⟩ := and_e hg
  obtain ⟨w0, rfl⟩ : ∃ w0 : Value, args = #[w0] := by
    have hs : args.size = 1 := by simpa [Cond.value, given_1] using g1a
    obtain ⟨L⟩ := args
    match L, hs with
    | [w0], _ => exact ⟨w0, rfl⟩
  have hw := fun d (hd : d ∈ tables_1) => atoms_spec (ws := Jvm.Cond.code x code maxLocals ret :: tables_1) hat d (List.mem_cons_of_mem _ hd)
  have hfit : Fit s := fun {y c} hc i hi => by
    obtain ⟨ha, rfl⟩ := Array.getElem?_eq_some_iff.mp hc
    have q := List.all_eq_true.mp ((Array.all_eq_true_iff_forall_mem.mp hF) _ (Array.getElem_mem ha)) i (List.mem_range.mpr hi)
    simpa [Array.getElem?_eq_getElem hi] using q
  obtain ⟨i0, ei0⟩ := is_v g1b
  obtain rfl : w0 = (.int i0) := Option.some.inj ei0
  obtain ⟨g2a, g2b⟩ := and_e hn
  obtain ⟨g3a, g3b⟩ := and_e g2b
  obtain ⟨g4a, g4b⟩ := and_e g3b
  obtain ⟨g5a, g5b⟩ := and_e g4b
  obtain ⟨g6a, g6b⟩ := and_e g5b
  obtain ⟨g7a, g7b⟩ := and_e g6b
  obtain ⟨g8a, g8b⟩ := and_e g7b
  obtain ⟨g9a, g9b⟩ := and_e g8b
  obtain ⟨g10a, g10b⟩ := and_e g9b
  obtain ⟨w_READY, ev_READY⟩ := exa_v g2a
  have E_READY := Exa.start ev_READY g2a
  have S_READY := Sta.start ev_READY (Or.inr ⟨(hw _ (List.mem_of_getElem? (i := 2) rfl)), (hw _ (List.mem_of_getElem? (i := 3) rfl))⟩)
  obtain ⟨w_SUCCEEDED, ev_SUCCEEDED⟩ := exa_v g3a
  have E_SUCCEEDED := Exa.start ev_SUCCEEDED g3a
  have S_SUCCEEDED := Sta.start ev_SUCCEEDED (Or.inr ⟨(hw _ (List.mem_of_getElem? (i := 2) rfl)), (hw _ (List.mem_of_getElem? (i := 10) rfl))⟩)
  obtain ⟨w_DEAD, ev_DEAD⟩ := exa_v g6a
  have E_DEAD := Exa.start ev_DEAD g6a
  have S_DEAD := Sta.start ev_DEAD (Or.inr ⟨(hw _ (List.mem_of_getElem? (i := 2) rfl)), (hw _ (List.mem_of_getElem? (i := 12) rfl))⟩)
  obtain ⟨w_SCHEDULED, ev_SCHEDULED⟩ := exa_v g8a
  have E_SCHEDULED := Exa.start ev_SCHEDULED g8a
  have S_SCHEDULED := Sta.start ev_SCHEDULED (Or.inr ⟨(hw _ (List.mem_of_getElem? (i := 2) rfl)), (hw _ (List.mem_of_getElem? (i := 15) rfl))⟩)
  obtain ⟨w_RUNNING, ev_RUNNING⟩ := exa_v g10a
  have E_RUNNING := Exa.start ev_RUNNING g10a
  have S_RUNNING := Sta.start ev_RUNNING (Or.inr ⟨(hw _ (List.mem_of_getElem? (i := 2) rfl)), (hw _ (List.mem_of_getElem? (i := 18) rfl))⟩)
  have O_READY := own_fld g4a ev_READY
  have O_SUCCEEDED := own_fld g5a ev_SUCCEEDED
  have O_DEAD := own_fld g7a ev_DEAD
  have O_SCHEDULED := own_fld g9a ev_SCHEDULED
  have O_RUNNING := own_fld g10b ev_RUNNING
  obtain ⟨n, o, h1, h2, h3, _, L, rfl, hQ, hq⟩ := own_c0 l s _ hw i0 w_READY w_SCHEDULED w_RUNNING w_SUCCEEDED w_DEAD s.heap S_READY E_READY O_READY S_SCHEDULED E_SCHEDULED O_SCHEDULED S_RUNNING E_RUNNING O_RUNNING S_SUCCEEDED E_SUCCEEDED O_SUCCEEDED S_DEAD E_DEAD O_DEAD p e ha hc hk s m _ below hf ((Spec.applies_iff_loose hf).mp happ).1 ⟨rfl, State.Warmed39.refl s, rfl⟩ trivial
  obtain ⟨rfl, N⟩ := own_fin hQ
  refine ⟨n, _, h1, h2, h3, hpost _ _ _ _ _ _ ⟨Cond.after_iff.mpr rfl, Cond.after_iff.mpr (eq_i res_at (Term.int_eval (1)) rfl), trivial⟩ ⟨hq.1, hq.2.1, (hq.2.2.sift fun y hy => Or.inr (N y hy)).mono (by decide) (by decide)⟩⟩
theorem main_1_1 : Claimed_1_1 := comes_1 fun _ _ _ _ _ _ h hF => ⟨h.1, hF⟩
theorem main_1_2 : Claimed_1_2 := comes_1 fun _ _ _ _ _ _ h hF => ⟨h.2.1, hF⟩
end Jvm.Pilot.@@N@@
namespace Jvm.Pilot.@@N@@
open Jvm Jvm.ClassFile Sem Op Lib Jvm.Free Jvm.Stand Jvm.Pilot.@@N@@.Jvm.D
/-! MADE BY PROGRAM (witnessworld.py) out of the Statement's table words and the real class files: 12 classes; the members and pool entries that the words name. The judged class is class 1, her method 1. -/
namespace start1
open Jvm.ClassFile
def u (s : String) : CpInfo := .utf8 (stringToUtf16 s)
/-- a pool by its gaps: so many unusable entries, then the entry; so many at the end -/
def gap : Nat → List CpInfo → List CpInfo
  | 0, r => r
  | n + 1, r => .unusable :: gap n r
def poolList (es : List (Nat × CpInfo)) (last : Nat) : List CpInfo := es.foldr (fun e r => gap e.1 (e.2 :: r)) (gap last [])
def pool (es : List (Nat × CpInfo)) (last : Nat) : Array CpInfo := ⟨poolList es last⟩
def fileOf (pool : Array CpInfo) (this : Nat) (attrs : Array Attribute := #[]) (ms : Array MethodInfo := #[]) (fl : Nat := 33) (sup : Nat := 0) (ifs : Array Nat := #[]) (fds : Array FieldInfo := #[]) : ClassFile where
  minorVersion := 0
  majorVersion := 65
  constantPool := pool
  accessFlags := fl
  thisClass := this
  superClass := sup
  interfaces := ifs
  fields := fds
  methods := ms
  attributes := attrs
def plain (name : String) (sup : Option ClassId) : Class where
  name := name
  kind := .ordinary
  loader := none
  accessFlags := 33
  super := sup
  interfaces := #[]
  cf := none
  fields := #[]
  methods := #[]
  instanceTypes := #[]
  staticTypes := #[]
  resolved := #[]
  callSites := []
  init := .initialized
  statics := none
  mirror := none

def pool0 : Array CpInfo := pool [(5, u "<init>"), (0, u "()V"), (1, .class_ 10), (1, u "java/lang/Object")] 113

def k0m0 : Method := { name := "<init>", desc := "()V", sig := { parameters := [], returnType := none }, accessFlags := 1, code := none }
/-- java/lang/Object -/
def k0 : Class := { plain "java/lang/Object" none with
  accessFlags := 33
  interfaces := #[]
  cf := some (fileOf pool0 8 #[] #[{ accessFlags := 1, nameIndex := 5, descriptorIndex := 6, attributes := #[] }] 33 0 #[] #[])
  fields := #[]
  methods := #[k0m0]
  instanceTypes := #[]
  staticTypes := #[]
  resolved := Array.replicate 124 none
  statics := none }

def pool1 : Array CpInfo := pool [(2, .class_ 4), (1, u "java/lang/Object"), (0, u "<init>"), (0, u "()V"), (0, .integer 2147483647), (0, .fieldref 9 10), (0, .class_ 11), (0, .nameAndType 12 13), (0, u "com/example/manoa/manoa/core/JobState"), (0, u "READY"), (0, u "Lcom/example/manoa/manoa/core/JobState;"), (0, .fieldref 9 15), (0, .nameAndType 16 13), (0, u "SCHEDULED"), (0, .fieldref 9 18), (0, .nameAndType 19 13), (0, u "RUNNING"), (0, .fieldref 9 21), (0, .nameAndType 22 13), (0, u "SUCCEEDED"), (0, .fieldref 9 24), (0, .nameAndType 25 13), (0, u "DEAD"), (0, .methodref 9 27), (0, .nameAndType 28 29), (0, u "isFinished"), (0, u "()Z"), (0, .class_ 31), (0, u "com/example/manoa/manoa/core/JobStateIsFinishedPinLaw"), (2, u "law"), (0, u "(I)Z")] 3

def k1m0 : Method := { name := "<init>", desc := "()V", sig := { parameters := [], returnType := none }, accessFlags := 1, code := none }
def k1c1 : Code := { maxStack := 2, maxLocals := 4, code := code, exceptionTable := #[], attributes := #[] }
def k1m1 : Method := { name := "law", desc := "(I)Z", sig := { parameters := [.int], returnType := some .boolean }, accessFlags := 9, code := some k1c1 }
/-- com/example/manoa/manoa/core/JobStateIsFinishedPinLaw -/
def k1 : Class := { plain "com/example/manoa/manoa/core/JobStateIsFinishedPinLaw" (some 0) with
  accessFlags := 49
  interfaces := #[]
  cf := some (fileOf pool1 30 #[] #[{ accessFlags := 1, nameIndex := 5, descriptorIndex := 6, attributes := #[] }, { accessFlags := 9, nameIndex := 34, descriptorIndex := 35, attributes := #[] }] 49 2 #[] #[])
  fields := #[]
  methods := #[k1m0, k1m1]
  instanceTypes := #[]
  staticTypes := #[]
  resolved := Array.replicate 39 none
  statics := none }

def pool2 : Array CpInfo := pool [(1, .class_ 2), (0, u "java/lang/constant/Constable"), (0, .class_ 4), (0, u "java/lang/Object")] 6

/-- java/lang/constant/Constable -/
def k2 : Class := { plain "java/lang/constant/Constable" (some 0) with
  accessFlags := 1537
  interfaces := #[]
  cf := some (fileOf pool2 1 #[] #[] 1537 3 #[] #[])
  fields := #[]
  methods := #[]
  instanceTypes := #[]
  staticTypes := #[]
  resolved := Array.replicate 11 none
  statics := none }

def pool3 : Array CpInfo := pool [(1, .class_ 2), (0, u "java/lang/Comparable"), (0, .class_ 4), (0, u "java/lang/Object")] 7

/-- java/lang/Comparable -/
def k3 : Class := { plain "java/lang/Comparable" (some 0) with
  accessFlags := 1537
  interfaces := #[]
  cf := some (fileOf pool3 1 #[] #[] 1537 3 #[] #[])
  fields := #[]
  methods := #[]
  instanceTypes := #[]
  staticTypes := #[]
  resolved := Array.replicate 12 none
  statics := none }

def pool4 : Array CpInfo := pool [(1, .class_ 2), (0, u "java/io/Serializable"), (0, .class_ 4), (0, u "java/lang/Object")] 2

/-- java/io/Serializable -/
def k4 : Class := { plain "java/io/Serializable" (some 0) with
  accessFlags := 1537
  interfaces := #[]
  cf := some (fileOf pool4 1 #[] #[] 1537 3 #[] #[])
  fields := #[]
  methods := #[]
  instanceTypes := #[]
  staticTypes := #[]
  resolved := Array.replicate 7 none
  statics := none }

def pool5 : Array CpInfo := pool [(2, .class_ 4), (1, u "java/lang/Enum"), (0, u "name"), (0, u "Ljava/lang/String;"), (2, u "ordinal"), (0, u "I"), (1, .class_ 14), (1, u "java/lang/Object"), (4, u "hash"), (86, .class_ 108), (1, u "java/lang/Enum$EnumDesc"), (2, .class_ 112), (0, u "java/lang/constant/Constable"), (0, .class_ 114), (0, u "java/lang/Comparable"), (0, .class_ 116), (0, u "java/io/Serializable")] 87

/-- java/lang/Enum -/
def k5 : Class := { plain "java/lang/Enum" (some 0) with
  accessFlags := 1057
  interfaces := #[2, 3, 4]
  cf := some (fileOf pool5 2 #[.nestMembers #[106]] #[] 1057 12 #[111, 113, 115] #[{ accessFlags := 18, nameIndex := 5, descriptorIndex := 6, attributes := #[] }, { accessFlags := 18, nameIndex := 9, descriptorIndex := 10, attributes := #[] }, { accessFlags := 2, nameIndex := 19, descriptorIndex := 10, attributes := #[] }])
  fields := #[{ name := "name", type := (.object "java/lang/String"), accessFlags := 18, slot := 0, constantValue := 0 }, { name := "ordinal", type := .int, accessFlags := 18, slot := 1, constantValue := 0 }, { name := "hash", type := .int, accessFlags := 2, slot := 2, constantValue := 0 }]
  methods := #[]
  instanceTypes := #[(.object "java/lang/String"), .int, .int]
  staticTypes := #[]
  resolved := Array.replicate 204 none
  statics := none }

def pool6 : Array CpInfo := pool [(1, .class_ 2), (0, u "com/example/manoa/manoa/core/JobState"), (2, u "READY"), (0, u "Lcom/example/manoa/manoa/core/JobState;"), (2, u "SCHEDULED"), (2, u "RUNNING"), (0, .fieldref 1 14), (0, .nameAndType 15 6), (0, u "SUCCEEDED"), (0, .fieldref 1 17), (0, .nameAndType 18 6), (0, u "DEAD"), (2, u "$VALUES"), (0, u "[Lcom/example/manoa/manoa/core/JobState;"), (6, .class_ 31), (1, u "java/lang/Enum"), (83, u "isFinished"), (0, u "()Z")] 33

def k6c0 : Code := { maxStack := 2, maxLocals := 1, code := prog_32_method_5_code, exceptionTable := #[], attributes := #[] }
def k6m0 : Method := { name := "isFinished", desc := "()Z", sig := { parameters := [], returnType := some .boolean }, accessFlags := 1, code := some k6c0 }
/-- com/example/manoa/manoa/core/JobState -/
def k6 : Class := { plain "com/example/manoa/manoa/core/JobState" (some 5) with
  accessFlags := 16433
  interfaces := #[]
  cf := some (fileOf pool6 1 #[] #[{ accessFlags := 1, nameIndex := 115, descriptorIndex := 116, attributes := #[] }] 16433 29 #[] #[{ accessFlags := 16409, nameIndex := 5, descriptorIndex := 6, attributes := #[] }, { accessFlags := 16409, nameIndex := 9, descriptorIndex := 6, attributes := #[] }, { accessFlags := 16409, nameIndex := 12, descriptorIndex := 6, attributes := #[] }, { accessFlags := 16409, nameIndex := 15, descriptorIndex := 6, attributes := #[] }, { accessFlags := 16409, nameIndex := 18, descriptorIndex := 6, attributes := #[] }, { accessFlags := 4122, nameIndex := 21, descriptorIndex := 22, attributes := #[] }])
  fields := #[{ name := "READY", type := (.object "com/example/manoa/manoa/core/JobState"), accessFlags := 16409, slot := 0, constantValue := 0 }, { name := "SCHEDULED", type := (.object "com/example/manoa/manoa/core/JobState"), accessFlags := 16409, slot := 1, constantValue := 0 }, { name := "RUNNING", type := (.object "com/example/manoa/manoa/core/JobState"), accessFlags := 16409, slot := 2, constantValue := 0 }, { name := "SUCCEEDED", type := (.object "com/example/manoa/manoa/core/JobState"), accessFlags := 16409, slot := 3, constantValue := 0 }, { name := "DEAD", type := (.object "com/example/manoa/manoa/core/JobState"), accessFlags := 16409, slot := 4, constantValue := 0 }, { name := "$VALUES", type := (.array (.object "com/example/manoa/manoa/core/JobState")), accessFlags := 4122, slot := 5, constantValue := 0 }]
  methods := #[k6m0]
  instanceTypes := #[(.object "java/lang/String"), .int, .int]
  staticTypes := #[(.object "com/example/manoa/manoa/core/JobState"), (.object "com/example/manoa/manoa/core/JobState"), (.object "com/example/manoa/manoa/core/JobState"), (.object "com/example/manoa/manoa/core/JobState"), (.object "com/example/manoa/manoa/core/JobState"), (.array (.object "com/example/manoa/manoa/core/JobState"))]
  resolved := Array.replicate 150 none
  statics := some 0 }

def pool7 : Array CpInfo := pool [(1, u "java/lang/Cloneable"), (0, .class_ 1), (0, u "java/lang/Object"), (0, .class_ 3)] 3

/-- java/lang/Cloneable -/
def k7 : Class := { plain "java/lang/Cloneable" (some 0) with
  accessFlags := 1537
  interfaces := #[]
  cf := some (fileOf pool7 2 #[] #[] 1537 4 #[] #[])
  fields := #[]
  methods := #[]
  instanceTypes := #[]
  staticTypes := #[]
  resolved := Array.replicate 8 none
  statics := none }

/-- the primitive byte -/
def k8 : Class := { plain "byte" none with kind := .primitive 'B', accessFlags := 0x411 }
/-- [B -/
def k9 : Class := { plain "[B" (some 0) with kind := .array 8 .byte, interfaces := #[7, 4], accessFlags := 1041 }

/-- the primitive int -/
def k10 : Class := { plain "int" none with kind := .primitive 'I', accessFlags := 0x411 }
/-- [I -/
def k11 : Class := { plain "[I" (some 0) with kind := .array 10 .int, interfaces := #[7, 4], accessFlags := 1041 }

def heap : Heap := #[{ cls := 6, slots := #[.ref 1, .ref 2, .ref 3, .ref 4, .ref 5, .null], vm := .statics 6 },
  { cls := 6, slots := #[.null, .int 0, .int 0], vm := .none },
  { cls := 6, slots := #[.null, .int 1, .int 0], vm := .none },
  { cls := 6, slots := #[.null, .int 2, .int 0], vm := .none },
  { cls := 6, slots := #[.null, .int 3, .int 0], vm := .none },
  { cls := 6, slots := #[.null, .int 4, .int 0], vm := .none }]
def classes : Array Class := #[k0, k1, k2, k3, k4, k5, k6, k7, k8, k9, k10, k11]
def interned : List (Array UInt16 × Addr) := []
def slotsUsed : Nat := 21
def theMethod : MethodId := ⟨1, 1⟩
def args0 : Array Value := #[.int 5]
def aboutOver (below : List Frame) : State where
  vm := { classes := classes, interned := interned.toArray }
  heap := heap
  slotsUsed := slotsUsed
  threads := #[{ frames := .invoking theMethod args0 :: below }]
def below0 : List Frame := [.native { method := ⟨0, 0⟩, args := #[] }]
def about1 : State := aboutOver below0
def p0 : Program := .bare "" "" ""
def e0 : Env := launch0.env 0 0 0
theorem w_frames : about1.frames = Frame.invoking theMethod args0 :: below0 := rfl
set_option maxRecDepth 65536 in
theorem w_args : argsFit about1.vm theMethod args0 = true := by decide +kernel
set_option maxRecDepth 65536 in
theorem w_heap : heapFits about1 = true := by decide +kernel
set_option maxRecDepth 65536 in
theorem w_runnable : about1.curStatus? = some .runnable := by decide +kernel
set_option maxRecDepth 65536 in
theorem w_alone : about1.alone = true := by decide +kernel
set_option maxRecDepth 65536 in
theorem w_named : about1.methodNamed? x = some theMethod := by decide +kernel
set_option maxRecDepth 65536 in
theorem w_hears : about1.hears theMethod below0 = true := by decide +kernel
set_option maxRecDepth 65536 in
theorem w_ripe : about1.ripe theMethod args0 below0 = true := by decide +kernel
theorem w_running : about1.status = .running := rfl
set_option maxRecDepth 65536 in
theorem w_room : about1.hasRoom e0.platform room_1 = true :=
  launch0.hasRoom_least _ room_1 (by decide +kernel) (by decide +kernel) (by decide +kernel) (by decide +kernel) (by decide +kernel) (by decide +kernel)
theorem allAtoms_all (ts : List Jvm.Cond) (a : Array Jvm.Value) (st : Jvm.State) : (allAtoms ts).before a st = ts.all (fun c => c.before a st) := by
  induction ts with
  | nil => rfl
  | cons c t ih =>
    show (Jvm.Cond.and c (allAtoms t)).before a st = _
    rw [Jvm.Cond.before_and, ih, List.all_cons]
def words1 : List Jvm.Cond := Jvm.Cond.code x code maxLocals ret :: tables_1
/-- a 'code' word, met by the world's own term for the bytes: nothing is compared byte by byte -/
theorem code_word {y : MethodName} {bytes : ByteArray} {mx : Nat} {rt : Option FieldType} {a : Array Value} {s : State} {m : MethodId} {meth : Method} {c : Code} (h1 : s.methodNamed? y = some m) (h2 : s.vm.method? m = some meth) (h3 : meth.code = some c) (h4 : c.code = bytes)
    (h5 : (c.maxLocals == mx && c.exceptionTable.isEmpty && decide (c.maxStack ≤ mostOperands) && decide (meth.sig.returnType = rt) && !meth.locks && decide (parseMethodDescriptor y.desc = some meth.sig)) = true) : (Jvm.Cond.code y bytes mx rt).before a s = true := by
  simp only [Bool.and_eq_true, beq_iff_eq, Bool.not_eq_true', decide_eq_true_eq] at h5
  obtain ⟨⟨⟨⟨⟨g1, g2⟩, g3⟩, g4⟩, g5⟩, g6⟩ := h5
  simp [Cond.before, Cond.holds, Cond.value, h1, h2, h3, h4, g1, g2, g3, g4, g5, g6]
def isCode : Jvm.Cond → Bool
  | .code _ _ _ _ => true
  | _ => false
theorem all_split {L : List Jvm.Cond} {P : Jvm.Cond → Bool} (h1 : L.all (fun c => isCode c || P c) = true) (h2 : ∀ c ∈ L.filter isCode, P c = true) : L.all P = true := by
  refine List.all_eq_true.mpr fun c hc => ?_
  have h := List.all_eq_true.mp h1 c hc
  rcases Bool.eq_false_or_eq_true (isCode c) with hi | hi
  · exact h2 c (List.mem_filter.mpr ⟨hc, hi⟩)
  · simpa [hi] using h
set_option maxRecDepth 65536 in
theorem w_c0 : (Jvm.Cond.code x code maxLocals ret).before args0 about1 = true := code_word (m := ⟨1, 1⟩) (meth := k1m1) (c := k1c1) (by decide +kernel) rfl rfl rfl (by decide +kernel)
set_option maxRecDepth 65536 in
theorem w_c1 : (Jvm.Cond.code ({ cls := "com/example/manoa/manoa/core/JobState", name := "isFinished", desc := "()Z" } : Jvm.MethodName) prog_32_method_5_code (1 : Nat) (Option.some Jvm.ClassFile.FieldType.boolean)).before args0 about1 = true := code_word (m := ⟨6, 0⟩) (meth := k6m0) (c := k6c0) (by decide +kernel) rfl rfl rfl (by decide +kernel)
def codes1 : List Jvm.Cond := [Jvm.Cond.code x code maxLocals ret, Jvm.Cond.code ({ cls := "com/example/manoa/manoa/core/JobState", name := "isFinished", desc := "()Z" } : Jvm.MethodName) prog_32_method_5_code (1 : Nat) (Option.some Jvm.ClassFile.FieldType.boolean)]
set_option maxRecDepth 65536 in
theorem codes_eq : words1.filter isCode = codes1 := rfl
theorem w_codes : ∀ c ∈ words1.filter isCode, c.before args0 about1 = true := by
  rw [codes_eq]
  intro c hc
  simp only [codes1, List.mem_cons, List.not_mem_nil, or_false] at hc
  rcases hc with rfl | rfl
  · exact w_c0
  · exact w_c1
set_option maxRecDepth 65536 in
theorem w_t1 : words1.all (fun c => isCode c || c.before args0 about1) = true := by decide +kernel
theorem w_tables : (allAtoms (Jvm.Cond.code x code maxLocals ret :: tables_1)).before args0 about1 = true := by
  rw [allAtoms_all]
  show words1.all (fun c => c.before args0 about1) = true
  refine all_split ?_ w_codes
  rw [w_t1]
set_option maxRecDepth 65536 in
theorem w_case : (Jvm.Cond.and given_1 narrow_1).before args0 about1 = true := by decide +kernel
theorem w_applies : (headSpec (Jvm.Cond.code x code maxLocals ret :: tables_1) room_1).applies x e0.platform about1 = true :=
  (Spec.applies_iff w_frames).mpr ⟨w_running, w_runnable, w_alone, w_named, w_hears, w_ripe, w_room, w_tables⟩
theorem atStart : AtStart classFile x code maxLocals ret World_1 tables_1 room_1 Calls_1 rest_1 Pre_1 launch0 p0 e0 about1 theMethod args0 below0 :=
  ⟨lists_1, trivial, launch0.admits_env _ _ _, launch0.least_env, fairChoices_fair.cas, fairChoices_fair.clock, w_frames, w_args, w_heap, w_applies, trivial, trivial, w_case⟩
end start1
theorem witness_1 : WitnessClaimed_1 := ⟨start1.p0, start1.e0, start1.about1, start1.theMethod, start1.args0, start1.below0, start1.atStart⟩
end Jvm.Pilot.@@N@@
