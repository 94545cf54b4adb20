import JvmDerived
import JvmDerived.Pilot.@@N@@Statement
import JvmDerived.Pilot.@@N@@Code
set_option linter.unusedVariables false
set_option linter.unusedSimpArgs false
namespace Jvm.RoadKit
open Sem ClassFile Op Lib Jvm.Stand Jvm.Free Jvm.LawKit
section Own
variable {p : Program} {l : Launch} {e : Env} {R : Room} {s : State} {m : MethodId} {args : Array Value} {below : List Frame} {meth : Method} {c : Code} {T : State} {locs : List Loc} {cells slots : Nat} {Z : State} {a0 : Array Value} {h : Heap}
/-- the run goes on from the frame g over T to an end that P says -/
def own_Go (p : Program) (e : Env) (below : List Frame) (P : Outcome → State → Prop) (T : State) (g : JFrame) : Prop :=
  ∃ s₂ o, Steps p.tables e below (T.setTop g) s₂ ∧ s₂.status = .running ∧ Ended s₂ below o ∧ P o s₂
theorem own_via {P : Outcome → State → Prop} {T' : State} {g g' : JFrame} (k : ∀ target, Steps p.tables e below (T'.setTop g') target → Steps p.tables e below (T.setTop g) target) (q : own_Go p e below P T' g') : own_Go p e below P T g := by
  obtain ⟨s2, o, h1, h2⟩ := q
  exact ⟨s2, o, k _ h1, h2⟩
theorem own_start {P : Outcome → State → Prop} {g g' : JFrame} (q : g = g') (k : own_Go p e below P T g') : own_Go p e below P T g := q ▸ k
/-- what a body owes at its end -/
abbrev own_End (s : State) (Q : Option Value → Heap → List Loc → Prop) (k n : Nat) : Outcome → State → Prop := fun o U' => ∃ v L, o = .returned v ∧ Q v U'.heap L ∧ FrameEnd s o U' L k n
theorem own_ret {Q : Option Value → Heap → List Loc → Prop} {k n : Nat} {pc : Nat} {Ls : Array Slot} {w : Value} {t : FieldType} {i : Instr} {rest : List Value} (X : Stand p l e R s m args below meth c T locs cells slots) (hx : p.tables.exec = Jvm.exec) (hret : meth.sig.returnType = some t) (hlk : meth.locks = false) (hn : narrow t w = w)
    (hi : (i = .ireturn ∧ (t = .int ∨ t = .boolean ∨ t = .byte ∨ t = .char ∨ t = .short) ∧ ∃ z, w = .int z) ∨ (i = .lreturn ∧ t = .long ∧ ∃ z, w = .long z) ∨ (i = .dreturn ∧ t = .double ∧ ∃ z, w = .double z) ∨ (i = .freturn ∧ t = .float ∧ ∃ z, w = .float z) ∨ (i = .areturn ∧ t.isReference = true ∧ w.isRef = true))
    (hd : decode c.code pc = .ok (i, 1)) (hk : cells ≤ k) (hs : slots ≤ n) (hQ : Q (some w) T.heap locs) : own_Go p e below (own_End s Q k n) T (mkF m pc Ls (w :: rest)) := by
  obtain ⟨fs, hr, hrun, hended, hW, hsame⟩ := X.leave (v := some w) (fun q => by rw [hret] at q; cases q) hlk
  exact ⟨_, _, retOut X hx hret hn hi hd hr, hrun, hended, _, _, rfl, hQ, ⟨_, rfl⟩, hW, hsame.mono hk hs⟩
theorem own_retV {Q : Option Value → Heap → List Loc → Prop} {k n : Nat} {pc : Nat} {Ls : Array Slot} (X : Stand p l e R s m args below meth c T locs cells slots) (hx : p.tables.exec = Jvm.exec) (hret : meth.sig.returnType = none) (hlk : meth.locks = false)
    (hd : decode c.code pc = .ok (.return_, 1)) (hk : cells ≤ k) (hs : slots ≤ n) (hQ : Q none T.heap locs) : own_Go p e below (own_End s Q k n) T (mkF m pc Ls []) := by
  obtain ⟨fs, hr, hrun, hended, hW, hsame⟩ := X.leave (v := none) (fun _ => rfl) hlk
  exact ⟨_, _, X.returnOut hx hret hd hr, hrun, hended, _, _, rfl, hQ, ⟨_, rfl⟩, hW, hsame.mono hk hs⟩
/-- a callee that leaves the heap as it was -/
def own_Q (r : Option Value) (h0 : Heap) (v : Option Value) (h : Heap) (L : List Loc) : Prop := v = r ∧ L = [] ∧ h = h0
def own_F (r : Option Value) (n0 : Nat) (v : Option Value) (h : Heap) (L : List Loc) : Prop := v = r ∧ Fr n0 L
theorem own_fin {r v : Option Value} {n0 : Nat} {h : Heap} {L : List Loc} (q : own_F r n0 v h L) : v = r ∧ Fr n0 L := q
abbrev own_Met (l : Launch) (Z : State) (y : MethodName) (ws : List Cond) (rm : Room) (as' : Array Value) (h0 : Heap) (Q : Option Value → Heap → List Loc → Prop) : Prop :=
  MetFree l y (head1 ws rm) (fun a U => a = as' ∧ Z.Warmed39 U.vm ∧ U.heap = h0) (fun _ _ _ _ _ => True) (fun _ U o U' => ∃ v L, o = .returned v ∧ Q v U'.heap L ∧ FrameEnd U o U' L rm.cells rm.slots)
theorem own_callV {own C : String} {index : Nat} {y z : MethodName} {bytes : ByteArray} {maxL : Nat} {ret : Option FieldType} {rm : Room} {as' : Array Value} {r : Option Value} {W : Nat} {b : Addr}
    (X : Stand p l e R s m args below meth c T locs cells slots) (hx : p.tables.exec = Jvm.exec) (hZ : Z.Warmed39 s.vm) (hown : s.vm.findClass own = some m.cls)
    (wl : (Cond.methodLink own index y).before a0 Z = true) (wd : (Cond.declares y).before a0 Z = true) (nf : NotFace s y) (ws : (Cond.selects C y z).before a0 Z = true) (wi : (Cond.instanceMethod z).before a0 Z = true) (hy : y.cls ≠ "java/lang/invoke/MethodHandle" ∧ y.cls ≠ "java/lang/invoke/VarHandle")
    (wc : (Cond.code z bytes maxL ret).before a0 Z = true) (wz : (Cond.initialized z.cls).before a0 Z = true) (hM : own_Met l Z z [Cond.code z bytes maxL ret] rm as' h (own_Q r h)) (eT : T.heap = h) (E : Exa Z h b C)
    (hf : rm.frames + 1 ≤ R.frames) (hl : W + (maxL + 11) + rm.locals ≤ R.locals) (hc : cells + rm.cells ≤ R.cells) (hs : slots + rm.slots ≤ R.slots)
    {g : JFrame} (hg : g.method = m) (hsize : g.locals.size = c.maxLocals) {argsL rest : List Value} (hlen : ∀ sig, parseMethodDescriptor y.desc = some sig → argsL.length = sig.parameters.length) (hstack : g.stack = argsL.reverse ++ .ref b :: rest)
    (hW : 2 * g.monitorRoom + (rest.map fun v => v.category).sum ≤ W) (hdg : decode c.code g.pc = .ok (.invokevirtual index, 3)) (hargs : (.ref b :: argsL).toArray = as') :
    ∃ T', Stand p l e R s m args below meth c T' locs (cells + rm.cells) (slots + rm.slots) ∧ T'.heap = h ∧ ∀ target, Steps p.tables e below (T'.setTop { g with pc := g.pc + 3, stack := r.toList ++ rest }) target → Steps p.tables e below (T.setTop g) target := by
  obtain ⟨cB, kB, q1, q2, q3⟩ := isOf hZ eT E
  obtain ⟨_, _, ⟨T', L', k', n'⟩, -, X', ⟨Lc, hQ, hl', hk', hn'⟩, st⟩ := X.virtualBack hx (y := y) (z := z) hown (mvT hZ wl) (mvT hZ wd) nf (mvT hZ ws) (mvT hZ wi) hy (backOf (W := W) hM hZ wc wz hf hl) q1 q3 hg hsize (Steps.refl _) hlen hstack hW hdg (fun _ _ => ⟨hargs, eT, hc, hs⟩)
  dsimp only [Pt.U, Pt.locs, Pt.cells, Pt.slots] at X' hl' hk' hn' st hQ
  subst hl' hk' hn'
  obtain ⟨rfl, rfl, e'⟩ := hQ
  rw [List.append_nil] at X'
  exact ⟨T', X', e', fun target k => st.trans k⟩
theorem own_callU {own C owner : String} {index : Nat} {y z : MethodName} {bytes : ByteArray} {maxL : Nat} {ret : Option FieldType} {rm : Room} {as' : Array Value} {r : Option Value} {W : Nat} {b : Addr}
    (X : Stand p l e R s m args below meth c T locs cells slots) (hx : p.tables.exec = Jvm.exec) (hZ : Z.Warmed39 s.vm) (hown : s.vm.findClass own = some m.cls)
    (wl : (Cond.methodLink own index y).before a0 Z = true) (wm : (Cond.sameMethod y.cls owner y.name y.desc).before a0 Z = true) (wd : (Cond.declares ⟨owner, y.name, y.desc⟩).before a0 Z = true) (ho : owner ≠ "java/lang/invoke/MethodHandle" ∧ owner ≠ "java/lang/invoke/VarHandle") (ws : (Cond.selects C y z).before a0 Z = true) (wi : (Cond.instanceMethod z).before a0 Z = true)
    (wc : (Cond.code z bytes maxL ret).before a0 Z = true) (wz : (Cond.initialized z.cls).before a0 Z = true) (hM : own_Met l Z z [Cond.code z bytes maxL ret] rm as' h (own_Q r h)) (eT : T.heap = h) (E : Exa Z h b C)
    (hf : rm.frames + 1 ≤ R.frames) (hl : W + (maxL + 11) + rm.locals ≤ R.locals) (hc : cells + rm.cells ≤ R.cells) (hs : slots + rm.slots ≤ R.slots)
    {g : JFrame} (hg : g.method = m) (hsize : g.locals.size = c.maxLocals) {argsL rest : List Value} (hlen : ∀ sig, parseMethodDescriptor y.desc = some sig → argsL.length = sig.parameters.length) (hstack : g.stack = argsL.reverse ++ .ref b :: rest)
    (hW : 2 * g.monitorRoom + (rest.map fun v => v.category).sum ≤ W) (hdg : decode c.code g.pc = .ok (.invokevirtual index, 3)) (hargs : (.ref b :: argsL).toArray = as') :
    ∃ T', Stand p l e R s m args below meth c T' locs (cells + rm.cells) (slots + rm.slots) ∧ T'.heap = h ∧ ∀ target, Steps p.tables e below (T'.setTop { g with pc := g.pc + 3, stack := r.toList ++ rest }) target → Steps p.tables e below (T.setTop g) target := by
  obtain ⟨cB, kB, q1, q2, q3⟩ := isOf hZ eT E
  obtain ⟨_, _, ⟨T', L', k', n'⟩, -, X', ⟨Lc, hQ, hl', hk', hn'⟩, st⟩ := X.virtualBackUp hx (x := y) (y := z) (owner := owner) hown (mvT hZ wl) (mvT hZ wm) (mvT hZ wd) ho (mvT hZ ws) (mvT hZ wi) (backOf (W := W) hM hZ wc wz hf hl) q1 q3 hg hsize (Steps.refl _) hlen hstack hW hdg (fun _ _ => ⟨hargs, eT, hc, hs⟩)
  dsimp only [Pt.U, Pt.locs, Pt.cells, Pt.slots] at X' hl' hk' hn' st hQ
  subst hl' hk' hn'
  obtain ⟨rfl, rfl, e'⟩ := hQ
  rw [List.append_nil] at X'
  exact ⟨T', X', e', fun target k => st.trans k⟩
theorem own_callS {own : String} {index : Nat} {y : MethodName} {bytes : ByteArray} {maxL : Nat} {ret : Option FieldType} {rm : Room} {as' : Array Value} {r : Option Value} {W : Nat}
    (X : Stand p l e R s m args below meth c T locs cells slots) (hx : p.tables.exec = Jvm.exec) (hZ : Z.Warmed39 s.vm) (hown : s.vm.findClass own = some m.cls)
    (wl : (Cond.methodLink own index y).before a0 Z = true) (wt : (Cond.static y).before a0 Z = true) (wz : (Cond.initialized y.cls).before a0 Z = true) (wc : (Cond.code y bytes maxL ret).before a0 Z = true) (hy : y.cls ≠ "java/lang/invoke/MethodHandle" ∧ y.cls ≠ "java/lang/invoke/VarHandle")
    (hM : own_Met l Z y [Cond.code y bytes maxL ret] rm as' h (own_Q r h)) (eT : T.heap = h)
    (hf : rm.frames + 1 ≤ R.frames) (hl : W + (maxL + 11) + rm.locals ≤ R.locals) (hc : cells + rm.cells ≤ R.cells) (hs : slots + rm.slots ≤ R.slots)
    {g : JFrame} (hg : g.method = m) (hsize : g.locals.size = c.maxLocals) {argsL rest : List Value} (hlen : ∀ sig, parseMethodDescriptor y.desc = some sig → argsL.length = sig.parameters.length) (hstack : g.stack = argsL.reverse ++ rest)
    (hW : 2 * g.monitorRoom + (rest.map fun v => v.category).sum ≤ W) (hdg : decode c.code g.pc = .ok (.invokestatic index, 3)) (hargs : argsL.toArray = as') :
    ∃ T', Stand p l e R s m args below meth c T' locs (cells + rm.cells) (slots + rm.slots) ∧ T'.heap = h ∧ ∀ target, Steps p.tables e below (T'.setTop { g with pc := g.pc + 3, stack := r.toList ++ rest }) target → Steps p.tables e below (T.setTop g) target := by
  obtain ⟨_, _, ⟨T', L', k', n'⟩, -, X', ⟨Lc, hQ, hl', hk', hn'⟩, st⟩ := Jvm.LawKit.callS X hx (y := y) hown (mvT hZ wl) (mvT hZ wt) (mvT hZ wz) (mvT hZ wc) hy (backOf (W := W) hM hZ wc wz hf hl) hg hsize hlen hstack hW hdg (fun _ _ => ⟨hargs, eT, hc, hs⟩)
  dsimp only [Pt.U, Pt.locs, Pt.cells, Pt.slots] at X' hl' hk' hn' st hQ
  subst hl' hk' hn'
  obtain ⟨rfl, rfl, e'⟩ := hQ
  rw [List.append_nil] at X'
  exact ⟨T', X', e', st⟩
theorem own_evI {t : Term} {k : Int32} (q : (Cond.eq t (.int k)).value args Z none Z [] = some true) : t.eval args Z none [] Z = some (.int k) := eqv_i rfl q
theorem own_evL {t : Term} {k : Int64} (q : (Cond.eq t (.long k)).value args Z none Z [] = some true) : t.eval args Z none [] Z = some (.long k) := eqv_l rfl q
theorem own_fld {t : Term} {k : Int32} {a : Addr} {C n d : String} (q : (Cond.eq (.field t C n d) (.int k)).value args Z none Z [] = some true) (ht : t.eval args Z none [] Z = some (.ref a)) : Fld Z Z.heap a C n d (.int k) := Fld.start ((fld_at ht).symm.trans (own_evI q))
theorem own_staK {h' : Heap} {C n d : String} {v : Value} (F : Sta Z h C n d v) (K : Keep h h' []) : Sta Z h' C n d v := by
  obtain ⟨cf, i, k, f, st, cell, h1, h2, h3, h4, h5, r⟩ := F
  exact ⟨cf, i, k, f, st, cell, h1, h2, h3, h4, K.2.1 _ _ h5 nin0, r⟩
theorem own_arrK {h' : Heap} {a : Addr} {cl : Cell} {ty : FieldType} (F : Arr Z h a cl ty) (K : Keep h h' []) : Arr Z h' a cl ty := ⟨K.2.1 _ _ F.1 nin0, F.2⟩
/-- a static call by a contract of any kind -/
theorem own_callSQ {own : String} {index : Nat} {y : MethodName} {bytes : ByteArray} {maxL : Nat} {ret : Option FieldType} {rm : Room} {as' : Array Value} {Q : Option Value → Heap → List Loc → Prop} {W : Nat}
    (X : Stand p l e R s m args below meth c T locs cells slots) (hx : p.tables.exec = Jvm.exec) (hZ : Z.Warmed39 s.vm) (hown : s.vm.findClass own = some m.cls)
    (wl : (Cond.methodLink own index y).before a0 Z = true) (wt : (Cond.static y).before a0 Z = true) (wz : (Cond.initialized y.cls).before a0 Z = true) (wc : (Cond.code y bytes maxL ret).before a0 Z = true) (hy : y.cls ≠ "java/lang/invoke/MethodHandle" ∧ y.cls ≠ "java/lang/invoke/VarHandle")
    (hM : own_Met l Z y [Cond.code y bytes maxL ret] rm as' h Q) (eT : T.heap = h)
    (hf : rm.frames + 1 ≤ R.frames) (hl : W + (maxL + 11) + rm.locals ≤ R.locals) (hc : cells + rm.cells ≤ R.cells) (hs : slots + rm.slots ≤ R.slots)
    {g : JFrame} (hg : g.method = m) (hsize : g.locals.size = c.maxLocals) {argsL rest : List Value} (hlen : ∀ sig, parseMethodDescriptor y.desc = some sig → argsL.length = sig.parameters.length) (hstack : g.stack = argsL.reverse ++ rest)
    (hW : 2 * g.monitorRoom + (rest.map fun v => v.category).sum ≤ W) (hdg : decode c.code g.pc = .ok (.invokestatic index, 3)) (hargs : argsL.toArray = as') :
    ∃ v T' Lc, Stand p l e R s m args below meth c T' (locs ++ Lc) (cells + rm.cells) (slots + rm.slots) ∧ Q v T'.heap Lc ∧ ∀ target, Steps p.tables e below (T'.setTop { g with pc := g.pc + 3, stack := v.toList ++ rest }) target → Steps p.tables e below (T.setTop g) target := by
  obtain ⟨v, _, ⟨T', L', k', n'⟩, -, X', ⟨Lc, hQ, hl', hk', hn'⟩, st⟩ := Jvm.LawKit.callS X hx (y := y) hown (mvT hZ wl) (mvT hZ wt) (mvT hZ wz) (mvT hZ wc) hy (backOf (W := W) hM hZ wc wz hf hl) hg hsize hlen hstack hW hdg (fun _ _ => ⟨hargs, eT, hc, hs⟩)
  dsimp only [Pt.U, Pt.locs, Pt.cells, Pt.slots] at X' hl' hk' hn' st hQ
  subst hl' hk' hn'
  exact ⟨v, T', Lc, X', hQ, st⟩
/-- a constructor's call by a contract of any kind -/
theorem own_callIQ {own : String} {index : Nat} {y : MethodName} {bytes : ByteArray} {maxL : Nat} {rm : Room} {as' : Array Value} {Q : Option Value → Heap → List Loc → Prop} {W : Nat} {b : Addr}
    (X : Stand p l e R s m args below meth c T locs cells slots) (hx : p.tables.exec = Jvm.exec) (hZ : Z.Warmed39 s.vm) (hy1 : y.name = "<init>") (hown : s.vm.findClass own = some m.cls)
    (wl : (Cond.methodLink own index y).before a0 Z = true) (wi : (Cond.instanceMethod y).before a0 Z = true) (wz : (Cond.initialized y.cls).before a0 Z = true) (wc : (Cond.code y bytes maxL none).before a0 Z = true) (hy : y.cls ≠ "java/lang/invoke/MethodHandle" ∧ y.cls ≠ "java/lang/invoke/VarHandle")
    (hM : own_Met l Z y [Cond.code y bytes maxL none] rm as' h Q) (eT : T.heap = h)
    (hf : rm.frames + 1 ≤ R.frames) (hl : W + (maxL + 11) + rm.locals ≤ R.locals) (hc : cells + rm.cells ≤ R.cells) (hs : slots + rm.slots ≤ R.slots)
    {g : JFrame} (hg : g.method = m) (hsize : g.locals.size = c.maxLocals) {argsL rest : List Value} (hlen : ∀ sig, parseMethodDescriptor y.desc = some sig → argsL.length = sig.parameters.length) (hstack : g.stack = argsL.reverse ++ .ref b :: rest)
    (hW : 2 * g.monitorRoom + (rest.map fun v => v.category).sum ≤ W) (hdg : decode c.code g.pc = .ok (.invokespecial index, 3)) (hargs : (.ref b :: argsL).toArray = as') :
    ∃ v T' Lc, Stand p l e R s m args below meth c T' (locs ++ Lc) (cells + rm.cells) (slots + rm.slots) ∧ Q v T'.heap Lc ∧ ∀ target, Steps p.tables e below (T'.setTop { g with pc := g.pc + 3, stack := v.toList ++ rest }) target → Steps p.tables e below (T.setTop g) target := by
  obtain ⟨v, _, ⟨T', L', k', n'⟩, -, X', ⟨Lc, hQ, hl', hk', hn'⟩, st⟩ := X.specialBack hx (y := y) hy1 hown (mvT hZ wl) (mvT hZ wi) (mvT hZ wc) hy (backOf (W := W) hM hZ wc wz hf hl) hg hsize (Steps.refl _) (a := b) hlen hstack hW hdg (fun _ _ => ⟨hargs, eT, hc, hs⟩)
  dsimp only [Pt.U, Pt.locs, Pt.cells, Pt.slots] at X' hl' hk' hn' st hQ
  subst hl' hk' hn'
  exact ⟨v, T', Lc, X', hQ, fun target k => st.trans k⟩
/-- the same where the callee leaves the heap as it is -/
theorem own_callI {own : String} {index : Nat} {y : MethodName} {bytes : ByteArray} {maxL : Nat} {rm : Room} {as' : Array Value} {W : Nat} {b : Addr}
    (X : Stand p l e R s m args below meth c T locs cells slots) (hx : p.tables.exec = Jvm.exec) (hZ : Z.Warmed39 s.vm) (hy1 : y.name = "<init>") (hown : s.vm.findClass own = some m.cls)
    (wl : (Cond.methodLink own index y).before a0 Z = true) (wi : (Cond.instanceMethod y).before a0 Z = true) (wz : (Cond.initialized y.cls).before a0 Z = true) (wc : (Cond.code y bytes maxL none).before a0 Z = true) (hy : y.cls ≠ "java/lang/invoke/MethodHandle" ∧ y.cls ≠ "java/lang/invoke/VarHandle")
    (hM : own_Met l Z y [Cond.code y bytes maxL none] rm as' h (own_Q none h)) (eT : T.heap = h)
    (hf : rm.frames + 1 ≤ R.frames) (hl : W + (maxL + 11) + rm.locals ≤ R.locals) (hc : cells + rm.cells ≤ R.cells) (hs : slots + rm.slots ≤ R.slots)
    {g : JFrame} (hg : g.method = m) (hsize : g.locals.size = c.maxLocals) {argsL rest : List Value} (hlen : ∀ sig, parseMethodDescriptor y.desc = some sig → argsL.length = sig.parameters.length) (hstack : g.stack = argsL.reverse ++ .ref b :: rest)
    (hW : 2 * g.monitorRoom + (rest.map fun v => v.category).sum ≤ W) (hdg : decode c.code g.pc = .ok (.invokespecial index, 3)) (hargs : (.ref b :: argsL).toArray = as') :
    ∃ T', Stand p l e R s m args below meth c T' locs (cells + rm.cells) (slots + rm.slots) ∧ T'.heap = h ∧ ∀ target, Steps p.tables e below (T'.setTop { g with pc := g.pc + 3, stack := rest }) target → Steps p.tables e below (T.setTop g) target := by
  obtain ⟨v, T', Lc, X', ⟨rfl, rfl, e'⟩, st⟩ := own_callIQ X hx hZ hy1 hown wl wi wz wc hy hM eT hf hl hc hs hg hsize hlen hstack hW hdg hargs
  rw [List.append_nil] at X'
  exact ⟨T', X', e', st⟩
/-- roads that join: the rest of the walk is told once, for every x -/
theorem own_join {α : Type} {P : Outcome → State → Prop} {g : α → JFrame} {g0 : JFrame} (X : Stand p l e R s m args below meth c T locs cells slots) (eT : T.heap = h)
    (body : ∀ (x : α) (T' : State), Stand p l e R s m args below meth c T' locs cells slots → T'.heap = h → own_Go p e below P T' (g x))
    (rest : (∀ (x : α) (T' : State), Stand p l e R s m args below meth c T' locs cells slots → T'.heap = h → own_Go p e below P T' (g x)) → own_Go p e below P T g0) : own_Go p e below P T g0 := rest body
/-- a class whose line of superclasses ends without K is none of K's, where K is a class that can be instantiated -/
theorem own_NSroot {O K : String} {n : Nat} (w : (Cond.noSuperclass O).before a0 Z = true) (wk : (Cond.instantiable K n).before a0 Z = true) (hn : O ≠ K) : NS Z O K := by
  obtain ⟨c, k, h1, h2, h3, -, -⟩ := Cond.noSuperclass_spec w
  obtain ⟨t, kt, g1, -⟩ := Cond.instantiable_spec wk
  have ne := ids_ne h1 g1 hn
  refine ⟨c, t, h1, g1, fun fuel => ?_⟩
  cases fuel with
  | zero => rfl
  | succ f => simp [Vm.isSubclassAux, ne, h2, h3]
theorem own_NSno {C S K : String} {n : Nat} (w : (Cond.superclass C S).before a0 Z = true) (wk : (Cond.instantiable K n).before a0 Z = true) (q : NS Z C K) (hn : C ≠ K) : ∃ c t, Z.vm.findClass C = some c ∧ Z.vm.findClass K = some t ∧ Z.vm.assignable c t = false := by
  obtain ⟨c, t, h0, g0, n3⟩ := q
  obtain ⟨p, k, kp, h1, h2, h3, h4, h5, -, h7⟩ := Cond.superclass_spec h0 w
  obtain ⟨t', kt, g1, g2, g5, g7, -⟩ := Cond.instantiable_spec wk
  cases g0.symm.trans g1
  have g8 : kt.isInterface = false := by simp at g7; exact g7.1
  have ne := ids_ne h0 g0 hn
  refine ⟨c, t, h0, g0, ?_⟩
  show Z.vm.assignableAux (255 + 1) c t = false
  simp [Vm.assignableAux, ne, h2, g2, h5, g5, g8, Vm.isSubclass, n3]
theorem own_len {t : Term} {a : Addr} {cl : Cell} {ty : FieldType} {z : Int32} (ev : t.eval args Z none [] Z = some (.ref a)) (A : Arr Z Z.heap a cl ty) (q : (Term.length t).eval args Z none [] Z = some (.int z)) : cl.slots.size < 2 ^ 31 ∧ cl.slots.size.toInt32 = z := by
  have ha : Z.arrayAt? a = some cl := A.fin (Vm.Alike.refl _)
  by_cases hl : cl.slots.size < 2 ^ 31
  · rw [len_f ev ha hl] at q
    exact ⟨hl, Value.int.inj (Option.some.inj q)⟩
  · exfalso
    simp [Term.eval, ev, ha, hl] at q
theorem own_size {n : Nat} {z : Int32} (q : n < 2 ^ 31) (e : n.toInt32 = z) : n = z.toNatClampNeg := by
  rw [← e]
  simp only [Int32.toNatClampNeg, len_toInt q]
  rfl
end Own
end Jvm.RoadKit
namespace Jvm.Pilot.@@N@@
open Jvm Jvm.ClassFile Sem Op Lib Jvm.Free Jvm.Stand Jvm.LawKit Jvm.RoadKit Bundle Jvm.Pilot.@@N@@.Jvm.D
def own_max (a b : Int64) : Int64 := if a < b then b else a
theorem d_jdk_29_method_66_code_0 : decode jdk_29_method_66_code 0 = .ok (.lload_n 0, 1) := by decide +kernel
theorem d_jdk_29_method_66_code_1 : decode jdk_29_method_66_code 1 = .ok (.lload_n 2, 1) := by decide +kernel
theorem d_jdk_29_method_66_code_2 : decode jdk_29_method_66_code 2 = .ok (.lcmp, 1) := by decide +kernel
theorem d_jdk_29_method_66_code_3 : decode jdk_29_method_66_code 3 = .ok (.ifCond .lt 7, 3) := by decide +kernel
theorem d_jdk_29_method_66_code_6 : decode jdk_29_method_66_code 6 = .ok (.lload_n 0, 1) := by decide +kernel
theorem d_jdk_29_method_66_code_7 : decode jdk_29_method_66_code 7 = .ok (.goto 4, 3) := by decide +kernel
theorem d_jdk_29_method_66_code_10 : decode jdk_29_method_66_code 10 = .ok (.lload_n 2, 1) := by decide +kernel
theorem d_jdk_29_method_66_code_11 : decode jdk_29_method_66_code 11 = .ok (.lreturn, 1) := by decide +kernel
set_option maxRecDepth 65536 in
set_option maxHeartbeats 40000000 in
theorem own_mx (l : Launch) (Z : State) (a0 : Array Value) (hw : ∀ d ∈ tables_1, d.before a0 Z = true) (p1 p2 : Int64) (h0 : Heap)  :
    own_Met l Z (⟨"java/lang/Math", "max", "(JJ)J"⟩ : MethodName) [Jvm.Cond.code (⟨"java/lang/Math", "max", "(JJ)J"⟩ : MethodName) jdk_29_method_66_code 4 (some .long)] ({ frames := 0, cells := 0, slots := 0, locals := 0 } : Room) #[(.long p1), (.long p2)] h0 (own_Q (some (.long (own_max p1 p2))) h0) := by
  refine MetFree.of_bodySF (Jvm.Free.JP.mathPlain rfl (by decide +kernel)) hisR ?_
  intro p e s m args below meth c s₁ Bd hml0 hP hK
  obtain ⟨rfl, hZ, hh⟩ := hP
  have hx := Bd.exec
  have hby := Bd.bytes
  have hml : c.maxLocals = 4 := hml0
  have hown : s.vm.findClass "java/lang/Math" = some m.cls := findClass_of_methodNamed Bd.named
  have hnm := (name_of_methodNamed Bd.named Bd.method).1
  have hlk : meth.locks = false := BodyLoose.notSynchronized Bd
  have X0 : Stand p l e ({ frames := 0, cells := 0, slots := 0, locals := 0 } : Room) s m #[(.long p1), (.long p2)] below meth c s₁ [] 0 0 := Stand.of_body Bd
  have e0 : s₁.heap = h0 := by rw [← hh, Bd.state]; rfl
  show own_Go p e below (own_End s (own_Q (some (.long (own_max p1 p2))) h0) 0 0) s₁ (entryFrame m #[(.long p1), (.long p2)] 4)
  refine own_start (g' := mkF m 0 #[.val (.long p1), .second, .val (.long p2), .second] []) (by first | rfl | (simp [entryFrame, mkF, argsToLocals, Value.category, maxLocals]; done)) ?_
  refine own_via (T' := s₁) (g' := (mkF m 1 #[.val (.long p1), .second, .val (.long p2), .second] [(.long p1)])) (fun t k => XS.lloadN X0.here hx rfl (hb hby d_jdk_29_method_66_code_0) rfl k) ?_
  refine own_via (T' := s₁) (g' := (mkF m 2 #[.val (.long p1), .second, .val (.long p2), .second] [(.long p2), (.long p1)])) (fun t k => XS.lloadN X0.here hx rfl (hb hby d_jdk_29_method_66_code_1) rfl k) ?_
  refine own_via (T' := s₁) (g' := (mkF m 3 #[.val (.long p1), .second, .val (.long p2), .second] [(.int (lcmpW p1 p2))])) (fun t k => XS.lcmp X0.here hx rfl (hb hby d_jdk_29_method_66_code_2) rfl k) ?_
  by_cases hc1 : p1 < p2
  · refine own_via (T' := s₁) (g' := (mkF m 10 #[.val (.long p1), .second, .val (.long p2), .second] [])) (fun t k => XS.ifYes X0.here hx rfl (pc0 := 3) (pc' := 10) rfl (hb hby d_jdk_29_method_66_code_3) rfl ((if0 _ _).trans (tlt ((lw_lt p1 p2).mpr hc1)).1) (by decide) (by decide) k) ?_
    refine own_via (T' := s₁) (g' := (mkF m 11 #[.val (.long p1), .second, .val (.long p2), .second] [(.long p2)])) (fun t k => XS.lloadN X0.here hx rfl (hb hby d_jdk_29_method_66_code_10) rfl k) ?_
    exact own_ret (t := .long) X0 hx Bd.returns hlk rfl (Or.inr (Or.inl ⟨rfl, rfl, _, rfl⟩)) (hb hby d_jdk_29_method_66_code_11) (by decide) (by decide) ⟨by simp [own_max, hc1], rfl, e0⟩
  · refine own_via (T' := s₁) (g' := (mkF m 6 #[.val (.long p1), .second, .val (.long p2), .second] [])) (fun t k => XS.ifNo X0.here hx rfl (hb hby d_jdk_29_method_66_code_3) rfl ((if0 _ _).trans (flt (fun q => hc1 ((lw_lt p1 p2).mp q))).1) k) ?_
    refine own_via (T' := s₁) (g' := (mkF m 7 #[.val (.long p1), .second, .val (.long p2), .second] [(.long p1)])) (fun t k => XS.lloadN X0.here hx rfl (hb hby d_jdk_29_method_66_code_6) rfl k) ?_
    refine own_via (T' := s₁) (g' := (mkF m 11 #[.val (.long p1), .second, .val (.long p2), .second] [(.long p1)])) (fun t k => XS.goto X0.here hx rfl (pc0 := 7) (pc' := 11) rfl (hb hby d_jdk_29_method_66_code_7) (by decide) (by decide) k) ?_
    exact own_ret (t := .long) X0 hx Bd.returns hlk rfl (Or.inr (Or.inl ⟨rfl, rfl, _, rfl⟩)) (hb hby d_jdk_29_method_66_code_11) (by decide) (by decide) ⟨by simp [own_max, hc1], rfl, e0⟩
theorem pn_0 : plainName "com/example/manoa/manoa/postgres/Claims" = true := by first | (simp [plainName, overriddenIn]; done) | decide +kernel
theorem pd_8 : parseMethodDescriptor "(JJ)J" = some ⟨[.long, .long], some .long⟩ := by decide +kernel
theorem d_prog_49_method_9_code_0 : decode prog_49_method_9_code 0 = .ok (.lload_n 0, 1) := by decide +kernel
theorem d_prog_49_method_9_code_1 : decode prog_49_method_9_code 1 = .ok (.getstatic 95, 3) := by decide +kernel
theorem d_prog_49_method_9_code_4 : decode prog_49_method_9_code 4 = .ok (.ldc2_w 136, 3) := by decide +kernel
theorem d_prog_49_method_9_code_7 : decode prog_49_method_9_code 7 = .ok (.lload_n 2, 1) := by decide +kernel
theorem d_prog_49_method_9_code_8 : decode prog_49_method_9_code 8 = .ok (.lload_n 0, 1) := by decide +kernel
theorem d_prog_49_method_9_code_9 : decode prog_49_method_9_code 9 = .ok (.lsub, 1) := by decide +kernel
theorem d_prog_49_method_9_code_10 : decode prog_49_method_9_code 10 = .ok (.lmul, 1) := by decide +kernel
theorem d_prog_49_method_9_code_11 : decode prog_49_method_9_code 11 = .ok (.invokestatic 138, 3) := by decide +kernel
theorem d_prog_49_method_9_code_14 : decode prog_49_method_9_code 14 = .ok (.ladd, 1) := by decide +kernel
theorem d_prog_49_method_9_code_15 : decode prog_49_method_9_code 15 = .ok (.lreturn, 1) := by decide +kernel
set_option maxRecDepth 65536 in
set_option maxHeartbeats 40000000 in
theorem own_due (l : Launch) (Z : State) (a0 : Array Value) (hw : ∀ d ∈ tables_1, d.before a0 Z = true) (p1 p2 r : Int64) (h0 : Heap) (SP : Sta Z h0 "com/example/manoa/manoa/postgres/Claims" "FROM_START_PERIOD" "J" (.long (1000000000 : Int64))) (hr : r = p1 + own_max (1000000000 : Int64) ((10 : Int64) * (p2 - p1))) :
    own_Met l Z (⟨"com/example/manoa/manoa/postgres/Claims", "fromStartDue", "(JJ)J"⟩ : MethodName) [Jvm.Cond.code (⟨"com/example/manoa/manoa/postgres/Claims", "fromStartDue", "(JJ)J"⟩ : MethodName) prog_49_method_9_code 4 (some .long)] ({ frames := 1, cells := 0, slots := 0, locals := 17 } : Room) #[(.long p1), (.long p2)] h0 (own_Q (some (.long r)) h0) := by
  refine MetFree.of_bodySF (plainFor_of_name pn_0) hisR ?_
  intro p e s m args below meth c s₁ Bd hml0 hP hK
  obtain ⟨rfl, hZ, hh⟩ := hP
  have hx := Bd.exec
  have hby := Bd.bytes
  have hml : c.maxLocals = 4 := hml0
  have hown : s.vm.findClass "com/example/manoa/manoa/postgres/Claims" = some m.cls := findClass_of_methodNamed Bd.named
  have hnm := (name_of_methodNamed Bd.named Bd.method).1
  have hlk : meth.locks = false := BodyLoose.notSynchronized Bd
  have X0 : Stand p l e ({ frames := 1, cells := 0, slots := 0, locals := 17 } : Room) s m #[(.long p1), (.long p2)] below meth c s₁ [] 0 0 := Stand.of_body Bd
  have e0 : s₁.heap = h0 := by rw [← hh, Bd.state]; rfl
  show own_Go p e below (own_End s (own_Q (some (.long r)) h0) 0 0) s₁ (entryFrame m #[(.long p1), (.long p2)] 4)
  refine own_start (g' := mkF m 0 #[.val (.long p1), .second, .val (.long p2), .second] []) (by first | rfl | (simp [entryFrame, mkF, argsToLocals, Value.category, maxLocals]; done)) ?_
  refine own_via (T' := s₁) (g' := (mkF m 1 #[.val (.long p1), .second, .val (.long p2), .second] [(.long p1)])) (fun t k => XS.lloadN X0.here hx rfl (hb hby d_prog_49_method_9_code_0) rfl k) ?_
  obtain ⟨T1, X1, e1, st1⟩ := getS2 X0 hx hZ hown (host := "") (Or.inl (hw _ (List.mem_of_getElem? (i := 5) rfl))) Via.refl e0 SP (g := (mkF m 1 #[.val (.long p1), .second, .val (.long p2), .second] [(.long p1)])) rfl (hb hby d_prog_49_method_9_code_1)
  refine own_via (T' := T1) (g' := (mkF m 4 #[.val (.long p1), .second, .val (.long p2), .second] [(.long (1000000000 : Int64)), (.long p1)])) st1 ?_
  refine own_via (T' := T1) (g' := (mkF m 7 #[.val (.long p1), .second, .val (.long p2), .second] [(.long (10 : Int64)), (.long (1000000000 : Int64)), (.long p1)])) (fun t k => Stand.ldc2J (g := (mkF m 4 #[.val (.long p1), .second, .val (.long p2), .second] [(.long (1000000000 : Int64)), (.long p1)])) X1 hx hown (mvT hZ (hw _ (List.mem_of_getElem? (i := 7) rfl))) rfl (hb hby d_prog_49_method_9_code_4) k) ?_
  refine own_via (T' := T1) (g' := (mkF m 8 #[.val (.long p1), .second, .val (.long p2), .second] [(.long p2), (.long (10 : Int64)), (.long (1000000000 : Int64)), (.long p1)])) (fun t k => XS.lloadN X1.here hx rfl (hb hby d_prog_49_method_9_code_7) rfl k) ?_
  refine own_via (T' := T1) (g' := (mkF m 9 #[.val (.long p1), .second, .val (.long p2), .second] [(.long p1), (.long p2), (.long (10 : Int64)), (.long (1000000000 : Int64)), (.long p1)])) (fun t k => XS.lloadN X1.here hx rfl (hb hby d_prog_49_method_9_code_8) rfl k) ?_
  refine own_via (T' := T1) (g' := (mkF m 10 #[.val (.long p1), .second, .val (.long p2), .second] [(.long (p2 - p1)), (.long (10 : Int64)), (.long (1000000000 : Int64)), (.long p1)])) (fun t k => XS.lsub X1.here hx rfl (hb hby d_prog_49_method_9_code_9) rfl k) ?_
  refine own_via (T' := T1) (g' := (mkF m 11 #[.val (.long p1), .second, .val (.long p2), .second] [(.long ((10 : Int64) * (p2 - p1))), (.long (1000000000 : Int64)), (.long p1)])) (fun t k => XS.lmul X1.here hx rfl (hb hby d_prog_49_method_9_code_10) rfl k) ?_
  obtain ⟨T2, X2, e2, st2⟩ := own_callS (W := 2) (r := (some (.long (own_max (1000000000 : Int64) ((10 : Int64) * (p2 - p1)))))) (y := (⟨"java/lang/Math", "max", "(JJ)J"⟩ : MethodName)) X1 hx hZ hown (hw _ (List.mem_of_getElem? (i := 8) rfl)) (hw _ (List.mem_of_getElem? (i := 9) rfl)) (hw _ (List.mem_of_getElem? (i := 10) rfl)) (hw _ (List.mem_of_getElem? (i := 11) rfl)) (by decide) (own_mx l Z a0 hw (1000000000 : Int64) ((10 : Int64) * (p2 - p1)) h0) e1 (by decide) (by decide) (by decide) (by decide) (g := (mkF m 11 #[.val (.long p1), .second, .val (.long p2), .second] [(.long ((10 : Int64) * (p2 - p1))), (.long (1000000000 : Int64)), (.long p1)])) rfl (by rw [hml]; rfl) (argsL := [(.long (1000000000 : Int64)), (.long ((10 : Int64) * (p2 - p1)))]) (rest := [(.long p1)]) (lenOf pd_8 rfl) rfl (by show 2 * 0 + _ ≤ _; exact Nat.le_of_eq rfl) (hb hby d_prog_49_method_9_code_11) rfl
  refine own_via (T' := T2) (g' := (mkF m 14 #[.val (.long p1), .second, .val (.long p2), .second] [(.long (own_max (1000000000 : Int64) ((10 : Int64) * (p2 - p1)))), (.long p1)])) st2 ?_
  refine own_via (T' := T2) (g' := (mkF m 15 #[.val (.long p1), .second, .val (.long p2), .second] [(.long (p1 + (own_max (1000000000 : Int64) ((10 : Int64) * (p2 - p1)))))])) (fun t k => XS.ladd X2.here hx rfl (hb hby d_prog_49_method_9_code_14) rfl k) ?_
  exact own_ret (t := .long) X2 hx Bd.returns hlk rfl (Or.inr (Or.inl ⟨rfl, rfl, _, rfl⟩)) (hb hby d_prog_49_method_9_code_15) (by decide) (by decide) ⟨by rw [hr], rfl, e2⟩
theorem own_law (s d : Int64) (h1 : -576460752303423488 ≤ d.toInt) (h2 : d.toInt ≤ 576460752303423488) : own_max 1000000000 (10 * ((s + d) - s)) = if 100000000 < d then 10 * d else 1000000000 := by
  have e : (s + d) - s = d := by
    apply Int64.toInt_inj.mp
    have a1 := c_ladd s d
    have a2 := c_lsub (s + d) s
    have r1 := rng64 s
    have r2 := rng64 d
    have r3 := rng64 (s + d)
    have r4 := rng64 (s + d - s)
    omega
  rw [e]
  have em : (10 * d).toInt = 10 * d.toInt := by
    have a1 := c_lmul 10 d
    have t10 : (10 : Int64).toInt = 10 := by decide
    rw [t10] at a1
    have r1 := rng64 (10 * d)
    omega
  have t8 : (100000000 : Int64).toInt = 100000000 := by decide
  have t9 : (1000000000 : Int64).toInt = 1000000000 := by decide
  by_cases h : (100000000 : Int64) < d
  · have h' : (1000000000 : Int64) < 10 * d := by
      rw [Int64.lt_iff_toInt_lt] at h ⊢
      omega
    simp [own_max, h, h']
  · have h' : ¬ (1000000000 : Int64) < 10 * d := by
      rw [Int64.lt_iff_toInt_lt] at h ⊢
      omega
    simp [own_max, h, h']
theorem own_b0 (x d : Int64) (hd : x &&& (576460752303423487 : Int64) = d) : -576460752303423488 ≤ d.toInt ∧ d.toInt ≤ 576460752303423488 := by
  have a := c_maskL x 576460752303423487 59 (by decide) (by decide)
  rw [hd] at a
  omega
theorem own_b1 (x d : Int64) (hd : x &&& (1073741823 : Int64) = d) : -576460752303423488 ≤ d.toInt ∧ d.toInt ≤ 576460752303423488 := by
  have a := c_maskL x 1073741823 30 (by decide) (by decide)
  rw [hd] at a
  omega
theorem own_b2 (x d : Int64) (hd : (99999996 : Int64) + (x &&& (7 : Int64)) = d) : -576460752303423488 ≤ d.toInt ∧ d.toInt ≤ 576460752303423488 := by
  have a := c_maskL x 7 3 (by decide) (by decide)
  have b := c_ladd 99999996 (x &&& 7)
  have t : (99999996 : Int64).toInt = 99999996 := by decide
  rw [hd, t, a] at b
  have r := rng64 d
  omega
theorem own_b3 (x d : Int64) (hd : -(x &&& (576460752303423487 : Int64)) = d) : -576460752303423488 ≤ d.toInt ∧ d.toInt ≤ 576460752303423488 := by
  have a := c_maskL x 576460752303423487 59 (by decide) (by decide)
  have b := c_lneg (x &&& 576460752303423487)
  rw [hd, a] at b
  have r := rng64 d
  omega
theorem own_and3 (x k : Int32) (hk : x &&& (3 : Int32) = k) : k = 0 ∨ k = 1 ∨ k = 2 ∨ k = 3 := by
  have h1 := c_mask x 3 2 (by decide) (by decide)
  rw [hk] at h1
  have h3 : k.toInt = 0 ∨ k.toInt = 1 ∨ k.toInt = 2 ∨ k.toInt = 3 := by omega
  rcases h3 with h | h | h | h
  · exact Or.inl (Int32.toInt_inj.mp (by rw [h]; decide))
  · exact Or.inr (Or.inl (Int32.toInt_inj.mp (by rw [h]; decide)))
  · exact Or.inr (Or.inr (Or.inl (Int32.toInt_inj.mp (by rw [h]; decide))))
  · exact Or.inr (Or.inr (Or.inr (Int32.toInt_inj.mp (by rw [h]; decide))))
theorem pn_1 : plainName "com/example/manoa/manoa/postgres/ClaimsFromStartDuePinLaw" = true := by first | (simp [plainName, overriddenIn]; done) | decide +kernel
set_option maxRecDepth 65536 in
set_option maxHeartbeats 40000000 in
theorem own_c0 (l : Launch) (Z : State) (a0 : Array Value) (hw : ∀ d ∈ tables_1, d.before a0 Z = true) (p1 p2 : Int64) (p3 : Int32) (h0 : Heap) (SP : Sta Z h0 "com/example/manoa/manoa/postgres/Claims" "FROM_START_PERIOD" "J" (.long (1000000000 : Int64))) :
    own_Met l Z x (Jvm.Cond.code x code maxLocals ret :: tables_1) room_1 #[(.long p1), (.long p2), (.int p3)] h0 (own_F (some (.int 1)) h0.size) := by
  refine MetFree.of_bodySF (plainFor_of_name pn_1) hisR ?_
  intro p e s m args below meth c s₁ Bd hml0 hP hK
  obtain ⟨rfl, hZ, hh⟩ := hP
  have hx := Bd.exec
  have hby := Bd.bytes
  have hml : c.maxLocals = 14 := hml0
  have hown : s.vm.findClass "com/example/manoa/manoa/postgres/ClaimsFromStartDuePinLaw" = some m.cls := findClass_of_methodNamed Bd.named
  have hnm := (name_of_methodNamed Bd.named Bd.method).1
  have hlk : meth.locks = false := BodyLoose.notSynchronized Bd
  have X0 : Stand p l e room_1 s m #[(.long p1), (.long p2), (.int p3)] below meth c s₁ [] 0 0 := Stand.of_body Bd
  have e0 : s₁.heap = h0 := by rw [← hh, Bd.state]; rfl
  show own_Go p e below (own_End s (own_F (some (.int 1)) h0.size) 0 0) s₁ (entryFrame m #[(.long p1), (.long p2), (.int p3)] maxLocals)
  refine own_start (g' := mkF m 0 #[.val (.long p1), .second, .val (.long p2), .second, .val (.int p3), .unset, .unset, .unset, .unset, .unset, .unset, .unset, .unset, .unset] []) (by first | rfl | (simp [entryFrame, mkF, argsToLocals, Value.category, maxLocals]; done)) ?_
  refine own_via (T' := s₁) (g' := (mkF m 2 #[.val (.long p1), .second, .val (.long p2), .second, .val (.int p3), .unset, .unset, .unset, .unset, .unset, .unset, .unset, .unset, .unset] [(.int p3)])) (fun t k => XS.iload X0.here hx rfl (hb hby at_0) rfl k) ?_
  refine own_via (T' := s₁) (g' := (mkF m 3 #[.val (.long p1), .second, .val (.long p2), .second, .val (.int p3), .unset, .unset, .unset, .unset, .unset, .unset, .unset, .unset, .unset] [(.int (3 : Int32)), (.int p3)])) (fun t k => XS.iconst X0.here hx rfl (hb hby at_2) k) ?_
  refine own_via (T' := s₁) (g' := (mkF m 4 #[.val (.long p1), .second, .val (.long p2), .second, .val (.int p3), .unset, .unset, .unset, .unset, .unset, .unset, .unset, .unset, .unset] [(.int (p3 &&& (3 : Int32)))])) (fun t k => XS.iand X0.here hx rfl (hb hby at_3) rfl k) ?_
  generalize hm0 : (p3 &&& (3 : Int32)) = m0
  rcases own_and3 p3 m0 hm0 with rfl | rfl | rfl | rfl
  · refine own_via (T' := s₁) (g' := (mkF m 6 #[.val (.long p1), .second, .val (.long p2), .second, .val (.int p3), .val (.int (0 : Int32)), .unset, .unset, .unset, .unset, .unset, .unset, .unset, .unset] [])) (fun t k => XS.istore X0.here hx rfl (hb hby at_4) rfl (l' := #[.val (.long p1), .second, .val (.long p2), .second, .val (.int p3), .val (.int (0 : Int32)), .unset, .unset, .unset, .unset, .unset, .unset, .unset, .unset]) rfl k) ?_
    refine own_via (T' := s₁) (g' := (mkF m 8 #[.val (.long p1), .second, .val (.long p2), .second, .val (.int p3), .val (.int (0 : Int32)), .unset, .unset, .unset, .unset, .unset, .unset, .unset, .unset] [(.int (0 : Int32))])) (fun t k => XS.iload X0.here hx rfl (hb hby at_6) rfl k) ?_
    refine own_via (T' := s₁) (g' := (mkF m 11 #[.val (.long p1), .second, .val (.long p2), .second, .val (.int p3), .val (.int (0 : Int32)), .unset, .unset, .unset, .unset, .unset, .unset, .unset, .unset] [])) (fun t k => XS.ifNo X0.here hx rfl (hb hby at_8) rfl ((if0 _ _).trans (teq rfl).2) k) ?_
    refine own_via (T' := s₁) (g' := (mkF m 12 #[.val (.long p1), .second, .val (.long p2), .second, .val (.int p3), .val (.int (0 : Int32)), .unset, .unset, .unset, .unset, .unset, .unset, .unset, .unset] [(.long p2)])) (fun t k => XS.lloadN X0.here hx rfl (hb hby at_11) rfl k) ?_
    refine own_via (T' := s₁) (g' := (mkF m 15 #[.val (.long p1), .second, .val (.long p2), .second, .val (.int p3), .val (.int (0 : Int32)), .unset, .unset, .unset, .unset, .unset, .unset, .unset, .unset] [(.long (576460752303423487 : Int64)), (.long p2)])) (fun t k => Stand.ldc2J (g := (mkF m 12 #[.val (.long p1), .second, .val (.long p2), .second, .val (.int p3), .val (.int (0 : Int32)), .unset, .unset, .unset, .unset, .unset, .unset, .unset, .unset] [(.long p2)])) X0 hx hown (mvT hZ (hw _ (List.mem_of_getElem? (i := 0) rfl))) rfl (hb hby at_12) k) ?_
    refine own_via (T' := s₁) (g' := (mkF m 16 #[.val (.long p1), .second, .val (.long p2), .second, .val (.int p3), .val (.int (0 : Int32)), .unset, .unset, .unset, .unset, .unset, .unset, .unset, .unset] [(.long (p2 &&& (576460752303423487 : Int64)))])) (fun t k => XS.land X0.here hx rfl (hb hby at_15) rfl k) ?_
    generalize hd : (p2 &&& (576460752303423487 : Int64)) = d
    obtain ⟨b1, b2⟩ := own_b0 p2 d hd
    refine own_via (T' := s₁) (g' := (mkF m 18 #[.val (.long p1), .second, .val (.long p2), .second, .val (.int p3), .val (.int (0 : Int32)), .val (.long d), .second, .unset, .unset, .unset, .unset, .unset, .unset] [])) (fun t k => XS.lstore X0.here hx rfl (hb hby at_16) rfl (l' := #[.val (.long p1), .second, .val (.long p2), .second, .val (.int p3), .val (.int (0 : Int32)), .val (.long d), .second, .unset, .unset, .unset, .unset, .unset, .unset]) rfl k) ?_
    refine own_via (T' := s₁) (g' := (mkF m 65 #[.val (.long p1), .second, .val (.long p2), .second, .val (.int p3), .val (.int (0 : Int32)), .val (.long d), .second, .unset, .unset, .unset, .unset, .unset, .unset] [])) (fun t k => XS.goto X0.here hx rfl (pc0 := 18) (pc' := 65) rfl (hb hby at_18) (by decide) (by decide) k) ?_
    refine own_via (T' := s₁) (g' := (mkF m 66 #[.val (.long p1), .second, .val (.long p2), .second, .val (.int p3), .val (.int (0 : Int32)), .val (.long d), .second, .unset, .unset, .unset, .unset, .unset, .unset] [(.long p1)])) (fun t k => XS.lloadN X0.here hx rfl (hb hby at_65) rfl k) ?_
    refine own_via (T' := s₁) (g' := (mkF m 68 #[.val (.long p1), .second, .val (.long p2), .second, .val (.int p3), .val (.int (0 : Int32)), .val (.long d), .second, .unset, .unset, .unset, .unset, .unset, .unset] [(.long d), (.long p1)])) (fun t k => XS.lload X0.here hx rfl (hb hby at_66) rfl k) ?_
    refine own_via (T' := s₁) (g' := (mkF m 69 #[.val (.long p1), .second, .val (.long p2), .second, .val (.int p3), .val (.int (0 : Int32)), .val (.long d), .second, .unset, .unset, .unset, .unset, .unset, .unset] [(.long (p1 + d))])) (fun t k => XS.ladd X0.here hx rfl (hb hby at_68) rfl k) ?_
    refine own_via (T' := s₁) (g' := (mkF m 71 #[.val (.long p1), .second, .val (.long p2), .second, .val (.int p3), .val (.int (0 : Int32)), .val (.long d), .second, .val (.long (p1 + d)), .second, .unset, .unset, .unset, .unset] [])) (fun t k => XS.lstore X0.here hx rfl (hb hby at_69) rfl (l' := #[.val (.long p1), .second, .val (.long p2), .second, .val (.int p3), .val (.int (0 : Int32)), .val (.long d), .second, .val (.long (p1 + d)), .second, .unset, .unset, .unset, .unset]) rfl k) ?_
    refine own_via (T' := s₁) (g' := (mkF m 72 #[.val (.long p1), .second, .val (.long p2), .second, .val (.int p3), .val (.int (0 : Int32)), .val (.long d), .second, .val (.long (p1 + d)), .second, .unset, .unset, .unset, .unset] [(.long p1)])) (fun t k => XS.lloadN X0.here hx rfl (hb hby at_71) rfl k) ?_
    refine own_via (T' := s₁) (g' := (mkF m 74 #[.val (.long p1), .second, .val (.long p2), .second, .val (.int p3), .val (.int (0 : Int32)), .val (.long d), .second, .val (.long (p1 + d)), .second, .unset, .unset, .unset, .unset] [(.long (p1 + d)), (.long p1)])) (fun t k => XS.lload X0.here hx rfl (hb hby at_72) rfl k) ?_
    by_cases hc1 : (100000000 : Int64) < d
    · obtain ⟨T2, X2, e2, st2⟩ := own_callS (W := 0) (r := (some (.long (p1 + ((10 : Int64) * d))))) (y := (⟨"com/example/manoa/manoa/postgres/Claims", "fromStartDue", "(JJ)J"⟩ : MethodName)) X0 hx hZ hown (hw _ (List.mem_of_getElem? (i := 1) rfl)) (hw _ (List.mem_of_getElem? (i := 2) rfl)) (hw _ (List.mem_of_getElem? (i := 3) rfl)) (hw _ (List.mem_of_getElem? (i := 4) rfl)) (by decide) (own_due l Z a0 hw p1 (p1 + d) (p1 + ((10 : Int64) * d)) h0 SP (by rw [own_law p1 d b1 b2]; simp [hc1])) e0 (by decide) (by decide) (by decide) (by decide) (g := (mkF m 74 #[.val (.long p1), .second, .val (.long p2), .second, .val (.int p3), .val (.int (0 : Int32)), .val (.long d), .second, .val (.long (p1 + d)), .second, .unset, .unset, .unset, .unset] [(.long (p1 + d)), (.long p1)])) rfl (by rw [hml]; rfl) (argsL := [(.long p1), (.long (p1 + d))]) (rest := []) (lenOf pd_8 rfl) rfl (by show 2 * 0 + _ ≤ _; exact Nat.le_of_eq rfl) (hb hby at_74) rfl
      refine own_via (T' := T2) (g' := (mkF m 77 #[.val (.long p1), .second, .val (.long p2), .second, .val (.int p3), .val (.int (0 : Int32)), .val (.long d), .second, .val (.long (p1 + d)), .second, .unset, .unset, .unset, .unset] [(.long (p1 + ((10 : Int64) * d)))])) st2 ?_
      refine own_via (T' := T2) (g' := (mkF m 79 #[.val (.long p1), .second, .val (.long p2), .second, .val (.int p3), .val (.int (0 : Int32)), .val (.long d), .second, .val (.long (p1 + d)), .second, .val (.long (p1 + ((10 : Int64) * d))), .second, .unset, .unset] [])) (fun t k => XS.lstore X2.here hx rfl (hb hby at_77) rfl (l' := #[.val (.long p1), .second, .val (.long p2), .second, .val (.int p3), .val (.int (0 : Int32)), .val (.long d), .second, .val (.long (p1 + d)), .second, .val (.long (p1 + ((10 : Int64) * d))), .second, .unset, .unset]) rfl k) ?_
      refine own_via (T' := T2) (g' := (mkF m 81 #[.val (.long p1), .second, .val (.long p2), .second, .val (.int p3), .val (.int (0 : Int32)), .val (.long d), .second, .val (.long (p1 + d)), .second, .val (.long (p1 + ((10 : Int64) * d))), .second, .unset, .unset] [(.long d)])) (fun t k => XS.lload X2.here hx rfl (hb hby at_79) rfl k) ?_
      refine own_via (T' := T2) (g' := (mkF m 84 #[.val (.long p1), .second, .val (.long p2), .second, .val (.int p3), .val (.int (0 : Int32)), .val (.long d), .second, .val (.long (p1 + d)), .second, .val (.long (p1 + ((10 : Int64) * d))), .second, .unset, .unset] [(.long (100000000 : Int64)), (.long d)])) (fun t k => Stand.ldc2J (g := (mkF m 81 #[.val (.long p1), .second, .val (.long p2), .second, .val (.int p3), .val (.int (0 : Int32)), .val (.long d), .second, .val (.long (p1 + d)), .second, .val (.long (p1 + ((10 : Int64) * d))), .second, .unset, .unset] [(.long d)])) X2 hx hown (mvT hZ (hw _ (List.mem_of_getElem? (i := 12) rfl))) rfl (hb hby at_81) k) ?_
      refine own_via (T' := T2) (g' := (mkF m 85 #[.val (.long p1), .second, .val (.long p2), .second, .val (.int p3), .val (.int (0 : Int32)), .val (.long d), .second, .val (.long (p1 + d)), .second, .val (.long (p1 + ((10 : Int64) * d))), .second, .unset, .unset] [(.int (lcmpW d (100000000 : Int64)))])) (fun t k => XS.lcmp X2.here hx rfl (hb hby at_84) rfl k) ?_
      refine own_via (T' := T2) (g' := (mkF m 98 #[.val (.long p1), .second, .val (.long p2), .second, .val (.int p3), .val (.int (0 : Int32)), .val (.long d), .second, .val (.long (p1 + d)), .second, .val (.long (p1 + ((10 : Int64) * d))), .second, .unset, .unset] [])) (fun t k => XS.ifYes X2.here hx rfl (pc0 := 85) (pc' := 98) rfl (hb hby at_85) rfl ((if0 _ _).trans (tlt ((lw_gt d (100000000 : Int64)).mpr hc1)).2.2.1) (by decide) (by decide) k) ?_
      refine own_via (T' := T2) (g' := (mkF m 99 #[.val (.long p1), .second, .val (.long p2), .second, .val (.int p3), .val (.int (0 : Int32)), .val (.long d), .second, .val (.long (p1 + d)), .second, .val (.long (p1 + ((10 : Int64) * d))), .second, .unset, .unset] [(.long p1)])) (fun t k => XS.lloadN X2.here hx rfl (hb hby at_98) rfl k) ?_
      refine own_via (T' := T2) (g' := (mkF m 102 #[.val (.long p1), .second, .val (.long p2), .second, .val (.int p3), .val (.int (0 : Int32)), .val (.long d), .second, .val (.long (p1 + d)), .second, .val (.long (p1 + ((10 : Int64) * d))), .second, .unset, .unset] [(.long (10 : Int64)), (.long p1)])) (fun t k => Stand.ldc2J (g := (mkF m 99 #[.val (.long p1), .second, .val (.long p2), .second, .val (.int p3), .val (.int (0 : Int32)), .val (.long d), .second, .val (.long (p1 + d)), .second, .val (.long (p1 + ((10 : Int64) * d))), .second, .unset, .unset] [(.long p1)])) X2 hx hown (mvT hZ (hw _ (List.mem_of_getElem? (i := 14) rfl))) rfl (hb hby at_99) k) ?_
      refine own_via (T' := T2) (g' := (mkF m 104 #[.val (.long p1), .second, .val (.long p2), .second, .val (.int p3), .val (.int (0 : Int32)), .val (.long d), .second, .val (.long (p1 + d)), .second, .val (.long (p1 + ((10 : Int64) * d))), .second, .unset, .unset] [(.long d), (.long (10 : Int64)), (.long p1)])) (fun t k => XS.lload X2.here hx rfl (hb hby at_102) rfl k) ?_
      refine own_via (T' := T2) (g' := (mkF m 105 #[.val (.long p1), .second, .val (.long p2), .second, .val (.int p3), .val (.int (0 : Int32)), .val (.long d), .second, .val (.long (p1 + d)), .second, .val (.long (p1 + ((10 : Int64) * d))), .second, .unset, .unset] [(.long ((10 : Int64) * d)), (.long p1)])) (fun t k => XS.lmul X2.here hx rfl (hb hby at_104) rfl k) ?_
      refine own_via (T' := T2) (g' := (mkF m 106 #[.val (.long p1), .second, .val (.long p2), .second, .val (.int p3), .val (.int (0 : Int32)), .val (.long d), .second, .val (.long (p1 + d)), .second, .val (.long (p1 + ((10 : Int64) * d))), .second, .unset, .unset] [(.long (p1 + ((10 : Int64) * d)))])) (fun t k => XS.ladd X2.here hx rfl (hb hby at_105) rfl k) ?_
      refine own_via (T' := T2) (g' := (mkF m 108 #[.val (.long p1), .second, .val (.long p2), .second, .val (.int p3), .val (.int (0 : Int32)), .val (.long d), .second, .val (.long (p1 + d)), .second, .val (.long (p1 + ((10 : Int64) * d))), .second, .val (.long (p1 + ((10 : Int64) * d))), .second] [])) (fun t k => XS.lstore X2.here hx rfl (hb hby at_106) rfl (l' := #[.val (.long p1), .second, .val (.long p2), .second, .val (.int p3), .val (.int (0 : Int32)), .val (.long d), .second, .val (.long (p1 + d)), .second, .val (.long (p1 + ((10 : Int64) * d))), .second, .val (.long (p1 + ((10 : Int64) * d))), .second]) rfl k) ?_
      refine own_via (T' := T2) (g' := (mkF m 110 #[.val (.long p1), .second, .val (.long p2), .second, .val (.int p3), .val (.int (0 : Int32)), .val (.long d), .second, .val (.long (p1 + d)), .second, .val (.long (p1 + ((10 : Int64) * d))), .second, .val (.long (p1 + ((10 : Int64) * d))), .second] [(.long (p1 + ((10 : Int64) * d)))])) (fun t k => XS.lload X2.here hx rfl (hb hby at_108) rfl k) ?_
      refine own_via (T' := T2) (g' := (mkF m 112 #[.val (.long p1), .second, .val (.long p2), .second, .val (.int p3), .val (.int (0 : Int32)), .val (.long d), .second, .val (.long (p1 + d)), .second, .val (.long (p1 + ((10 : Int64) * d))), .second, .val (.long (p1 + ((10 : Int64) * d))), .second] [(.long (p1 + ((10 : Int64) * d))), (.long (p1 + ((10 : Int64) * d)))])) (fun t k => XS.lload X2.here hx rfl (hb hby at_110) rfl k) ?_
      refine own_via (T' := T2) (g' := (mkF m 113 #[.val (.long p1), .second, .val (.long p2), .second, .val (.int p3), .val (.int (0 : Int32)), .val (.long d), .second, .val (.long (p1 + d)), .second, .val (.long (p1 + ((10 : Int64) * d))), .second, .val (.long (p1 + ((10 : Int64) * d))), .second] [(.int (lcmpW (p1 + ((10 : Int64) * d)) (p1 + ((10 : Int64) * d))))])) (fun t k => XS.lcmp X2.here hx rfl (hb hby at_112) rfl k) ?_
      refine own_via (T' := T2) (g' := (mkF m 116 #[.val (.long p1), .second, .val (.long p2), .second, .val (.int p3), .val (.int (0 : Int32)), .val (.long d), .second, .val (.long (p1 + d)), .second, .val (.long (p1 + ((10 : Int64) * d))), .second, .val (.long (p1 + ((10 : Int64) * d))), .second] [])) (fun t k => XS.ifNo X2.here hx rfl (hb hby at_113) rfl ((if0 _ _).trans (teq ((lw_eq (p1 + ((10 : Int64) * d)) (p1 + ((10 : Int64) * d))).mpr rfl)).2) k) ?_
      refine own_via (T' := T2) (g' := (mkF m 117 #[.val (.long p1), .second, .val (.long p2), .second, .val (.int p3), .val (.int (0 : Int32)), .val (.long d), .second, .val (.long (p1 + d)), .second, .val (.long (p1 + ((10 : Int64) * d))), .second, .val (.long (p1 + ((10 : Int64) * d))), .second] [(.int (1 : Int32))])) (fun t k => XS.iconst X2.here hx rfl (hb hby at_116) k) ?_
      refine own_via (T' := T2) (g' := (mkF m 121 #[.val (.long p1), .second, .val (.long p2), .second, .val (.int p3), .val (.int (0 : Int32)), .val (.long d), .second, .val (.long (p1 + d)), .second, .val (.long (p1 + ((10 : Int64) * d))), .second, .val (.long (p1 + ((10 : Int64) * d))), .second] [(.int (1 : Int32))])) (fun t k => XS.goto X2.here hx rfl (pc0 := 117) (pc' := 121) rfl (hb hby at_117) (by decide) (by decide) k) ?_
      exact own_ret (t := .boolean) X2 hx Bd.returns hlk rfl (Or.inl ⟨rfl, by simp, _, rfl⟩) (hb hby at_121) (by decide) (by decide) ⟨rfl, Fr.nil _⟩
    · obtain ⟨T3, X3, e3, st3⟩ := own_callS (W := 0) (r := (some (.long (p1 + (1000000000 : Int64))))) (y := (⟨"com/example/manoa/manoa/postgres/Claims", "fromStartDue", "(JJ)J"⟩ : MethodName)) X0 hx hZ hown (hw _ (List.mem_of_getElem? (i := 1) rfl)) (hw _ (List.mem_of_getElem? (i := 2) rfl)) (hw _ (List.mem_of_getElem? (i := 3) rfl)) (hw _ (List.mem_of_getElem? (i := 4) rfl)) (by decide) (own_due l Z a0 hw p1 (p1 + d) (p1 + (1000000000 : Int64)) h0 SP (by rw [own_law p1 d b1 b2]; simp [hc1])) e0 (by decide) (by decide) (by decide) (by decide) (g := (mkF m 74 #[.val (.long p1), .second, .val (.long p2), .second, .val (.int p3), .val (.int (0 : Int32)), .val (.long d), .second, .val (.long (p1 + d)), .second, .unset, .unset, .unset, .unset] [(.long (p1 + d)), (.long p1)])) rfl (by rw [hml]; rfl) (argsL := [(.long p1), (.long (p1 + d))]) (rest := []) (lenOf pd_8 rfl) rfl (by show 2 * 0 + _ ≤ _; exact Nat.le_of_eq rfl) (hb hby at_74) rfl
      refine own_via (T' := T3) (g' := (mkF m 77 #[.val (.long p1), .second, .val (.long p2), .second, .val (.int p3), .val (.int (0 : Int32)), .val (.long d), .second, .val (.long (p1 + d)), .second, .unset, .unset, .unset, .unset] [(.long (p1 + (1000000000 : Int64)))])) st3 ?_
      refine own_via (T' := T3) (g' := (mkF m 79 #[.val (.long p1), .second, .val (.long p2), .second, .val (.int p3), .val (.int (0 : Int32)), .val (.long d), .second, .val (.long (p1 + d)), .second, .val (.long (p1 + (1000000000 : Int64))), .second, .unset, .unset] [])) (fun t k => XS.lstore X3.here hx rfl (hb hby at_77) rfl (l' := #[.val (.long p1), .second, .val (.long p2), .second, .val (.int p3), .val (.int (0 : Int32)), .val (.long d), .second, .val (.long (p1 + d)), .second, .val (.long (p1 + (1000000000 : Int64))), .second, .unset, .unset]) rfl k) ?_
      refine own_via (T' := T3) (g' := (mkF m 81 #[.val (.long p1), .second, .val (.long p2), .second, .val (.int p3), .val (.int (0 : Int32)), .val (.long d), .second, .val (.long (p1 + d)), .second, .val (.long (p1 + (1000000000 : Int64))), .second, .unset, .unset] [(.long d)])) (fun t k => XS.lload X3.here hx rfl (hb hby at_79) rfl k) ?_
      refine own_via (T' := T3) (g' := (mkF m 84 #[.val (.long p1), .second, .val (.long p2), .second, .val (.int p3), .val (.int (0 : Int32)), .val (.long d), .second, .val (.long (p1 + d)), .second, .val (.long (p1 + (1000000000 : Int64))), .second, .unset, .unset] [(.long (100000000 : Int64)), (.long d)])) (fun t k => Stand.ldc2J (g := (mkF m 81 #[.val (.long p1), .second, .val (.long p2), .second, .val (.int p3), .val (.int (0 : Int32)), .val (.long d), .second, .val (.long (p1 + d)), .second, .val (.long (p1 + (1000000000 : Int64))), .second, .unset, .unset] [(.long d)])) X3 hx hown (mvT hZ (hw _ (List.mem_of_getElem? (i := 12) rfl))) rfl (hb hby at_81) k) ?_
      refine own_via (T' := T3) (g' := (mkF m 85 #[.val (.long p1), .second, .val (.long p2), .second, .val (.int p3), .val (.int (0 : Int32)), .val (.long d), .second, .val (.long (p1 + d)), .second, .val (.long (p1 + (1000000000 : Int64))), .second, .unset, .unset] [(.int (lcmpW d (100000000 : Int64)))])) (fun t k => XS.lcmp X3.here hx rfl (hb hby at_84) rfl k) ?_
      refine own_via (T' := T3) (g' := (mkF m 88 #[.val (.long p1), .second, .val (.long p2), .second, .val (.int p3), .val (.int (0 : Int32)), .val (.long d), .second, .val (.long (p1 + d)), .second, .val (.long (p1 + (1000000000 : Int64))), .second, .unset, .unset] [])) (fun t k => XS.ifNo X3.here hx rfl (hb hby at_85) rfl ((if0 _ _).trans (flt (fun q => hc1 ((lw_gt d (100000000 : Int64)).mp q))).2.2.1) k) ?_
      refine own_via (T' := T3) (g' := (mkF m 89 #[.val (.long p1), .second, .val (.long p2), .second, .val (.int p3), .val (.int (0 : Int32)), .val (.long d), .second, .val (.long (p1 + d)), .second, .val (.long (p1 + (1000000000 : Int64))), .second, .unset, .unset] [(.long p1)])) (fun t k => XS.lloadN X3.here hx rfl (hb hby at_88) rfl k) ?_
      refine own_via (T' := T3) (g' := (mkF m 92 #[.val (.long p1), .second, .val (.long p2), .second, .val (.int p3), .val (.int (0 : Int32)), .val (.long d), .second, .val (.long (p1 + d)), .second, .val (.long (p1 + (1000000000 : Int64))), .second, .unset, .unset] [(.long (1000000000 : Int64)), (.long p1)])) (fun t k => Stand.ldc2J (g := (mkF m 89 #[.val (.long p1), .second, .val (.long p2), .second, .val (.int p3), .val (.int (0 : Int32)), .val (.long d), .second, .val (.long (p1 + d)), .second, .val (.long (p1 + (1000000000 : Int64))), .second, .unset, .unset] [(.long p1)])) X3 hx hown (mvT hZ (hw _ (List.mem_of_getElem? (i := 13) rfl))) rfl (hb hby at_89) k) ?_
      refine own_via (T' := T3) (g' := (mkF m 93 #[.val (.long p1), .second, .val (.long p2), .second, .val (.int p3), .val (.int (0 : Int32)), .val (.long d), .second, .val (.long (p1 + d)), .second, .val (.long (p1 + (1000000000 : Int64))), .second, .unset, .unset] [(.long (p1 + (1000000000 : Int64)))])) (fun t k => XS.ladd X3.here hx rfl (hb hby at_92) rfl k) ?_
      refine own_via (T' := T3) (g' := (mkF m 95 #[.val (.long p1), .second, .val (.long p2), .second, .val (.int p3), .val (.int (0 : Int32)), .val (.long d), .second, .val (.long (p1 + d)), .second, .val (.long (p1 + (1000000000 : Int64))), .second, .val (.long (p1 + (1000000000 : Int64))), .second] [])) (fun t k => XS.lstore X3.here hx rfl (hb hby at_93) rfl (l' := #[.val (.long p1), .second, .val (.long p2), .second, .val (.int p3), .val (.int (0 : Int32)), .val (.long d), .second, .val (.long (p1 + d)), .second, .val (.long (p1 + (1000000000 : Int64))), .second, .val (.long (p1 + (1000000000 : Int64))), .second]) rfl k) ?_
      refine own_via (T' := T3) (g' := (mkF m 108 #[.val (.long p1), .second, .val (.long p2), .second, .val (.int p3), .val (.int (0 : Int32)), .val (.long d), .second, .val (.long (p1 + d)), .second, .val (.long (p1 + (1000000000 : Int64))), .second, .val (.long (p1 + (1000000000 : Int64))), .second] [])) (fun t k => XS.goto X3.here hx rfl (pc0 := 95) (pc' := 108) rfl (hb hby at_95) (by decide) (by decide) k) ?_
      refine own_via (T' := T3) (g' := (mkF m 110 #[.val (.long p1), .second, .val (.long p2), .second, .val (.int p3), .val (.int (0 : Int32)), .val (.long d), .second, .val (.long (p1 + d)), .second, .val (.long (p1 + (1000000000 : Int64))), .second, .val (.long (p1 + (1000000000 : Int64))), .second] [(.long (p1 + (1000000000 : Int64)))])) (fun t k => XS.lload X3.here hx rfl (hb hby at_108) rfl k) ?_
      refine own_via (T' := T3) (g' := (mkF m 112 #[.val (.long p1), .second, .val (.long p2), .second, .val (.int p3), .val (.int (0 : Int32)), .val (.long d), .second, .val (.long (p1 + d)), .second, .val (.long (p1 + (1000000000 : Int64))), .second, .val (.long (p1 + (1000000000 : Int64))), .second] [(.long (p1 + (1000000000 : Int64))), (.long (p1 + (1000000000 : Int64)))])) (fun t k => XS.lload X3.here hx rfl (hb hby at_110) rfl k) ?_
      refine own_via (T' := T3) (g' := (mkF m 113 #[.val (.long p1), .second, .val (.long p2), .second, .val (.int p3), .val (.int (0 : Int32)), .val (.long d), .second, .val (.long (p1 + d)), .second, .val (.long (p1 + (1000000000 : Int64))), .second, .val (.long (p1 + (1000000000 : Int64))), .second] [(.int (lcmpW (p1 + (1000000000 : Int64)) (p1 + (1000000000 : Int64))))])) (fun t k => XS.lcmp X3.here hx rfl (hb hby at_112) rfl k) ?_
      refine own_via (T' := T3) (g' := (mkF m 116 #[.val (.long p1), .second, .val (.long p2), .second, .val (.int p3), .val (.int (0 : Int32)), .val (.long d), .second, .val (.long (p1 + d)), .second, .val (.long (p1 + (1000000000 : Int64))), .second, .val (.long (p1 + (1000000000 : Int64))), .second] [])) (fun t k => XS.ifNo X3.here hx rfl (hb hby at_113) rfl ((if0 _ _).trans (teq ((lw_eq (p1 + (1000000000 : Int64)) (p1 + (1000000000 : Int64))).mpr rfl)).2) k) ?_
      refine own_via (T' := T3) (g' := (mkF m 117 #[.val (.long p1), .second, .val (.long p2), .second, .val (.int p3), .val (.int (0 : Int32)), .val (.long d), .second, .val (.long (p1 + d)), .second, .val (.long (p1 + (1000000000 : Int64))), .second, .val (.long (p1 + (1000000000 : Int64))), .second] [(.int (1 : Int32))])) (fun t k => XS.iconst X3.here hx rfl (hb hby at_116) k) ?_
      refine own_via (T' := T3) (g' := (mkF m 121 #[.val (.long p1), .second, .val (.long p2), .second, .val (.int p3), .val (.int (0 : Int32)), .val (.long d), .second, .val (.long (p1 + d)), .second, .val (.long (p1 + (1000000000 : Int64))), .second, .val (.long (p1 + (1000000000 : Int64))), .second] [(.int (1 : Int32))])) (fun t k => XS.goto X3.here hx rfl (pc0 := 117) (pc' := 121) rfl (hb hby at_117) (by decide) (by decide) k) ?_
      exact own_ret (t := .boolean) X3 hx Bd.returns hlk rfl (Or.inl ⟨rfl, by simp, _, rfl⟩) (hb hby at_121) (by decide) (by decide) ⟨rfl, Fr.nil _⟩
  · refine own_via (T' := s₁) (g' := (mkF m 6 #[.val (.long p1), .second, .val (.long p2), .second, .val (.int p3), .val (.int (1 : Int32)), .unset, .unset, .unset, .unset, .unset, .unset, .unset, .unset] [])) (fun t k => XS.istore X0.here hx rfl (hb hby at_4) rfl (l' := #[.val (.long p1), .second, .val (.long p2), .second, .val (.int p3), .val (.int (1 : Int32)), .unset, .unset, .unset, .unset, .unset, .unset, .unset, .unset]) rfl k) ?_
    refine own_via (T' := s₁) (g' := (mkF m 8 #[.val (.long p1), .second, .val (.long p2), .second, .val (.int p3), .val (.int (1 : Int32)), .unset, .unset, .unset, .unset, .unset, .unset, .unset, .unset] [(.int (1 : Int32))])) (fun t k => XS.iload X0.here hx rfl (hb hby at_6) rfl k) ?_
    refine own_via (T' := s₁) (g' := (mkF m 21 #[.val (.long p1), .second, .val (.long p2), .second, .val (.int p3), .val (.int (1 : Int32)), .unset, .unset, .unset, .unset, .unset, .unset, .unset, .unset] [])) (fun t k => XS.ifYes X0.here hx rfl (pc0 := 8) (pc' := 21) rfl (hb hby at_8) rfl ((if0 _ _).trans (feq (by decide)).2) (by decide) (by decide) k) ?_
    refine own_via (T' := s₁) (g' := (mkF m 23 #[.val (.long p1), .second, .val (.long p2), .second, .val (.int p3), .val (.int (1 : Int32)), .unset, .unset, .unset, .unset, .unset, .unset, .unset, .unset] [(.int (1 : Int32))])) (fun t k => XS.iload X0.here hx rfl (hb hby at_21) rfl k) ?_
    refine own_via (T' := s₁) (g' := (mkF m 24 #[.val (.long p1), .second, .val (.long p2), .second, .val (.int p3), .val (.int (1 : Int32)), .unset, .unset, .unset, .unset, .unset, .unset, .unset, .unset] [(.int (1 : Int32)), (.int (1 : Int32))])) (fun t k => XS.iconst X0.here hx rfl (hb hby at_23) k) ?_
    refine own_via (T' := s₁) (g' := (mkF m 27 #[.val (.long p1), .second, .val (.long p2), .second, .val (.int p3), .val (.int (1 : Int32)), .unset, .unset, .unset, .unset, .unset, .unset, .unset, .unset] [])) (fun t k => XS.icmpNo X0.here hx rfl (hb hby at_24) rfl (teq rfl).2 k) ?_
    refine own_via (T' := s₁) (g' := (mkF m 28 #[.val (.long p1), .second, .val (.long p2), .second, .val (.int p3), .val (.int (1 : Int32)), .unset, .unset, .unset, .unset, .unset, .unset, .unset, .unset] [(.long p2)])) (fun t k => XS.lloadN X0.here hx rfl (hb hby at_27) rfl k) ?_
    refine own_via (T' := s₁) (g' := (mkF m 31 #[.val (.long p1), .second, .val (.long p2), .second, .val (.int p3), .val (.int (1 : Int32)), .unset, .unset, .unset, .unset, .unset, .unset, .unset, .unset] [(.long (1073741823 : Int64)), (.long p2)])) (fun t k => Stand.ldc2J (g := (mkF m 28 #[.val (.long p1), .second, .val (.long p2), .second, .val (.int p3), .val (.int (1 : Int32)), .unset, .unset, .unset, .unset, .unset, .unset, .unset, .unset] [(.long p2)])) X0 hx hown (mvT hZ (hw _ (List.mem_of_getElem? (i := 15) rfl))) rfl (hb hby at_28) k) ?_
    refine own_via (T' := s₁) (g' := (mkF m 32 #[.val (.long p1), .second, .val (.long p2), .second, .val (.int p3), .val (.int (1 : Int32)), .unset, .unset, .unset, .unset, .unset, .unset, .unset, .unset] [(.long (p2 &&& (1073741823 : Int64)))])) (fun t k => XS.land X0.here hx rfl (hb hby at_31) rfl k) ?_
    generalize hd : (p2 &&& (1073741823 : Int64)) = d
    obtain ⟨b1, b2⟩ := own_b1 p2 d hd
    refine own_via (T' := s₁) (g' := (mkF m 34 #[.val (.long p1), .second, .val (.long p2), .second, .val (.int p3), .val (.int (1 : Int32)), .val (.long d), .second, .unset, .unset, .unset, .unset, .unset, .unset] [])) (fun t k => XS.lstore X0.here hx rfl (hb hby at_32) rfl (l' := #[.val (.long p1), .second, .val (.long p2), .second, .val (.int p3), .val (.int (1 : Int32)), .val (.long d), .second, .unset, .unset, .unset, .unset, .unset, .unset]) rfl k) ?_
    refine own_via (T' := s₁) (g' := (mkF m 65 #[.val (.long p1), .second, .val (.long p2), .second, .val (.int p3), .val (.int (1 : Int32)), .val (.long d), .second, .unset, .unset, .unset, .unset, .unset, .unset] [])) (fun t k => XS.goto X0.here hx rfl (pc0 := 34) (pc' := 65) rfl (hb hby at_34) (by decide) (by decide) k) ?_
    refine own_via (T' := s₁) (g' := (mkF m 66 #[.val (.long p1), .second, .val (.long p2), .second, .val (.int p3), .val (.int (1 : Int32)), .val (.long d), .second, .unset, .unset, .unset, .unset, .unset, .unset] [(.long p1)])) (fun t k => XS.lloadN X0.here hx rfl (hb hby at_65) rfl k) ?_
    refine own_via (T' := s₁) (g' := (mkF m 68 #[.val (.long p1), .second, .val (.long p2), .second, .val (.int p3), .val (.int (1 : Int32)), .val (.long d), .second, .unset, .unset, .unset, .unset, .unset, .unset] [(.long d), (.long p1)])) (fun t k => XS.lload X0.here hx rfl (hb hby at_66) rfl k) ?_
    refine own_via (T' := s₁) (g' := (mkF m 69 #[.val (.long p1), .second, .val (.long p2), .second, .val (.int p3), .val (.int (1 : Int32)), .val (.long d), .second, .unset, .unset, .unset, .unset, .unset, .unset] [(.long (p1 + d))])) (fun t k => XS.ladd X0.here hx rfl (hb hby at_68) rfl k) ?_
    refine own_via (T' := s₁) (g' := (mkF m 71 #[.val (.long p1), .second, .val (.long p2), .second, .val (.int p3), .val (.int (1 : Int32)), .val (.long d), .second, .val (.long (p1 + d)), .second, .unset, .unset, .unset, .unset] [])) (fun t k => XS.lstore X0.here hx rfl (hb hby at_69) rfl (l' := #[.val (.long p1), .second, .val (.long p2), .second, .val (.int p3), .val (.int (1 : Int32)), .val (.long d), .second, .val (.long (p1 + d)), .second, .unset, .unset, .unset, .unset]) rfl k) ?_
    refine own_via (T' := s₁) (g' := (mkF m 72 #[.val (.long p1), .second, .val (.long p2), .second, .val (.int p3), .val (.int (1 : Int32)), .val (.long d), .second, .val (.long (p1 + d)), .second, .unset, .unset, .unset, .unset] [(.long p1)])) (fun t k => XS.lloadN X0.here hx rfl (hb hby at_71) rfl k) ?_
    refine own_via (T' := s₁) (g' := (mkF m 74 #[.val (.long p1), .second, .val (.long p2), .second, .val (.int p3), .val (.int (1 : Int32)), .val (.long d), .second, .val (.long (p1 + d)), .second, .unset, .unset, .unset, .unset] [(.long (p1 + d)), (.long p1)])) (fun t k => XS.lload X0.here hx rfl (hb hby at_72) rfl k) ?_
    by_cases hc4 : (100000000 : Int64) < d
    · obtain ⟨T5, X5, e5, st5⟩ := own_callS (W := 0) (r := (some (.long (p1 + ((10 : Int64) * d))))) (y := (⟨"com/example/manoa/manoa/postgres/Claims", "fromStartDue", "(JJ)J"⟩ : MethodName)) X0 hx hZ hown (hw _ (List.mem_of_getElem? (i := 1) rfl)) (hw _ (List.mem_of_getElem? (i := 2) rfl)) (hw _ (List.mem_of_getElem? (i := 3) rfl)) (hw _ (List.mem_of_getElem? (i := 4) rfl)) (by decide) (own_due l Z a0 hw p1 (p1 + d) (p1 + ((10 : Int64) * d)) h0 SP (by rw [own_law p1 d b1 b2]; simp [hc4])) e0 (by decide) (by decide) (by decide) (by decide) (g := (mkF m 74 #[.val (.long p1), .second, .val (.long p2), .second, .val (.int p3), .val (.int (1 : Int32)), .val (.long d), .second, .val (.long (p1 + d)), .second, .unset, .unset, .unset, .unset] [(.long (p1 + d)), (.long p1)])) rfl (by rw [hml]; rfl) (argsL := [(.long p1), (.long (p1 + d))]) (rest := []) (lenOf pd_8 rfl) rfl (by show 2 * 0 + _ ≤ _; exact Nat.le_of_eq rfl) (hb hby at_74) rfl
      refine own_via (T' := T5) (g' := (mkF m 77 #[.val (.long p1), .second, .val (.long p2), .second, .val (.int p3), .val (.int (1 : Int32)), .val (.long d), .second, .val (.long (p1 + d)), .second, .unset, .unset, .unset, .unset] [(.long (p1 + ((10 : Int64) * d)))])) st5 ?_
      refine own_via (T' := T5) (g' := (mkF m 79 #[.val (.long p1), .second, .val (.long p2), .second, .val (.int p3), .val (.int (1 : Int32)), .val (.long d), .second, .val (.long (p1 + d)), .second, .val (.long (p1 + ((10 : Int64) * d))), .second, .unset, .unset] [])) (fun t k => XS.lstore X5.here hx rfl (hb hby at_77) rfl (l' := #[.val (.long p1), .second, .val (.long p2), .second, .val (.int p3), .val (.int (1 : Int32)), .val (.long d), .second, .val (.long (p1 + d)), .second, .val (.long (p1 + ((10 : Int64) * d))), .second, .unset, .unset]) rfl k) ?_
      refine own_via (T' := T5) (g' := (mkF m 81 #[.val (.long p1), .second, .val (.long p2), .second, .val (.int p3), .val (.int (1 : Int32)), .val (.long d), .second, .val (.long (p1 + d)), .second, .val (.long (p1 + ((10 : Int64) * d))), .second, .unset, .unset] [(.long d)])) (fun t k => XS.lload X5.here hx rfl (hb hby at_79) rfl k) ?_
      refine own_via (T' := T5) (g' := (mkF m 84 #[.val (.long p1), .second, .val (.long p2), .second, .val (.int p3), .val (.int (1 : Int32)), .val (.long d), .second, .val (.long (p1 + d)), .second, .val (.long (p1 + ((10 : Int64) * d))), .second, .unset, .unset] [(.long (100000000 : Int64)), (.long d)])) (fun t k => Stand.ldc2J (g := (mkF m 81 #[.val (.long p1), .second, .val (.long p2), .second, .val (.int p3), .val (.int (1 : Int32)), .val (.long d), .second, .val (.long (p1 + d)), .second, .val (.long (p1 + ((10 : Int64) * d))), .second, .unset, .unset] [(.long d)])) X5 hx hown (mvT hZ (hw _ (List.mem_of_getElem? (i := 12) rfl))) rfl (hb hby at_81) k) ?_
      refine own_via (T' := T5) (g' := (mkF m 85 #[.val (.long p1), .second, .val (.long p2), .second, .val (.int p3), .val (.int (1 : Int32)), .val (.long d), .second, .val (.long (p1 + d)), .second, .val (.long (p1 + ((10 : Int64) * d))), .second, .unset, .unset] [(.int (lcmpW d (100000000 : Int64)))])) (fun t k => XS.lcmp X5.here hx rfl (hb hby at_84) rfl k) ?_
      refine own_via (T' := T5) (g' := (mkF m 98 #[.val (.long p1), .second, .val (.long p2), .second, .val (.int p3), .val (.int (1 : Int32)), .val (.long d), .second, .val (.long (p1 + d)), .second, .val (.long (p1 + ((10 : Int64) * d))), .second, .unset, .unset] [])) (fun t k => XS.ifYes X5.here hx rfl (pc0 := 85) (pc' := 98) rfl (hb hby at_85) rfl ((if0 _ _).trans (tlt ((lw_gt d (100000000 : Int64)).mpr hc4)).2.2.1) (by decide) (by decide) k) ?_
      refine own_via (T' := T5) (g' := (mkF m 99 #[.val (.long p1), .second, .val (.long p2), .second, .val (.int p3), .val (.int (1 : Int32)), .val (.long d), .second, .val (.long (p1 + d)), .second, .val (.long (p1 + ((10 : Int64) * d))), .second, .unset, .unset] [(.long p1)])) (fun t k => XS.lloadN X5.here hx rfl (hb hby at_98) rfl k) ?_
      refine own_via (T' := T5) (g' := (mkF m 102 #[.val (.long p1), .second, .val (.long p2), .second, .val (.int p3), .val (.int (1 : Int32)), .val (.long d), .second, .val (.long (p1 + d)), .second, .val (.long (p1 + ((10 : Int64) * d))), .second, .unset, .unset] [(.long (10 : Int64)), (.long p1)])) (fun t k => Stand.ldc2J (g := (mkF m 99 #[.val (.long p1), .second, .val (.long p2), .second, .val (.int p3), .val (.int (1 : Int32)), .val (.long d), .second, .val (.long (p1 + d)), .second, .val (.long (p1 + ((10 : Int64) * d))), .second, .unset, .unset] [(.long p1)])) X5 hx hown (mvT hZ (hw _ (List.mem_of_getElem? (i := 14) rfl))) rfl (hb hby at_99) k) ?_
      refine own_via (T' := T5) (g' := (mkF m 104 #[.val (.long p1), .second, .val (.long p2), .second, .val (.int p3), .val (.int (1 : Int32)), .val (.long d), .second, .val (.long (p1 + d)), .second, .val (.long (p1 + ((10 : Int64) * d))), .second, .unset, .unset] [(.long d), (.long (10 : Int64)), (.long p1)])) (fun t k => XS.lload X5.here hx rfl (hb hby at_102) rfl k) ?_
      refine own_via (T' := T5) (g' := (mkF m 105 #[.val (.long p1), .second, .val (.long p2), .second, .val (.int p3), .val (.int (1 : Int32)), .val (.long d), .second, .val (.long (p1 + d)), .second, .val (.long (p1 + ((10 : Int64) * d))), .second, .unset, .unset] [(.long ((10 : Int64) * d)), (.long p1)])) (fun t k => XS.lmul X5.here hx rfl (hb hby at_104) rfl k) ?_
      refine own_via (T' := T5) (g' := (mkF m 106 #[.val (.long p1), .second, .val (.long p2), .second, .val (.int p3), .val (.int (1 : Int32)), .val (.long d), .second, .val (.long (p1 + d)), .second, .val (.long (p1 + ((10 : Int64) * d))), .second, .unset, .unset] [(.long (p1 + ((10 : Int64) * d)))])) (fun t k => XS.ladd X5.here hx rfl (hb hby at_105) rfl k) ?_
      refine own_via (T' := T5) (g' := (mkF m 108 #[.val (.long p1), .second, .val (.long p2), .second, .val (.int p3), .val (.int (1 : Int32)), .val (.long d), .second, .val (.long (p1 + d)), .second, .val (.long (p1 + ((10 : Int64) * d))), .second, .val (.long (p1 + ((10 : Int64) * d))), .second] [])) (fun t k => XS.lstore X5.here hx rfl (hb hby at_106) rfl (l' := #[.val (.long p1), .second, .val (.long p2), .second, .val (.int p3), .val (.int (1 : Int32)), .val (.long d), .second, .val (.long (p1 + d)), .second, .val (.long (p1 + ((10 : Int64) * d))), .second, .val (.long (p1 + ((10 : Int64) * d))), .second]) rfl k) ?_
      refine own_via (T' := T5) (g' := (mkF m 110 #[.val (.long p1), .second, .val (.long p2), .second, .val (.int p3), .val (.int (1 : Int32)), .val (.long d), .second, .val (.long (p1 + d)), .second, .val (.long (p1 + ((10 : Int64) * d))), .second, .val (.long (p1 + ((10 : Int64) * d))), .second] [(.long (p1 + ((10 : Int64) * d)))])) (fun t k => XS.lload X5.here hx rfl (hb hby at_108) rfl k) ?_
      refine own_via (T' := T5) (g' := (mkF m 112 #[.val (.long p1), .second, .val (.long p2), .second, .val (.int p3), .val (.int (1 : Int32)), .val (.long d), .second, .val (.long (p1 + d)), .second, .val (.long (p1 + ((10 : Int64) * d))), .second, .val (.long (p1 + ((10 : Int64) * d))), .second] [(.long (p1 + ((10 : Int64) * d))), (.long (p1 + ((10 : Int64) * d)))])) (fun t k => XS.lload X5.here hx rfl (hb hby at_110) rfl k) ?_
      refine own_via (T' := T5) (g' := (mkF m 113 #[.val (.long p1), .second, .val (.long p2), .second, .val (.int p3), .val (.int (1 : Int32)), .val (.long d), .second, .val (.long (p1 + d)), .second, .val (.long (p1 + ((10 : Int64) * d))), .second, .val (.long (p1 + ((10 : Int64) * d))), .second] [(.int (lcmpW (p1 + ((10 : Int64) * d)) (p1 + ((10 : Int64) * d))))])) (fun t k => XS.lcmp X5.here hx rfl (hb hby at_112) rfl k) ?_
      refine own_via (T' := T5) (g' := (mkF m 116 #[.val (.long p1), .second, .val (.long p2), .second, .val (.int p3), .val (.int (1 : Int32)), .val (.long d), .second, .val (.long (p1 + d)), .second, .val (.long (p1 + ((10 : Int64) * d))), .second, .val (.long (p1 + ((10 : Int64) * d))), .second] [])) (fun t k => XS.ifNo X5.here hx rfl (hb hby at_113) rfl ((if0 _ _).trans (teq ((lw_eq (p1 + ((10 : Int64) * d)) (p1 + ((10 : Int64) * d))).mpr rfl)).2) k) ?_
      refine own_via (T' := T5) (g' := (mkF m 117 #[.val (.long p1), .second, .val (.long p2), .second, .val (.int p3), .val (.int (1 : Int32)), .val (.long d), .second, .val (.long (p1 + d)), .second, .val (.long (p1 + ((10 : Int64) * d))), .second, .val (.long (p1 + ((10 : Int64) * d))), .second] [(.int (1 : Int32))])) (fun t k => XS.iconst X5.here hx rfl (hb hby at_116) k) ?_
      refine own_via (T' := T5) (g' := (mkF m 121 #[.val (.long p1), .second, .val (.long p2), .second, .val (.int p3), .val (.int (1 : Int32)), .val (.long d), .second, .val (.long (p1 + d)), .second, .val (.long (p1 + ((10 : Int64) * d))), .second, .val (.long (p1 + ((10 : Int64) * d))), .second] [(.int (1 : Int32))])) (fun t k => XS.goto X5.here hx rfl (pc0 := 117) (pc' := 121) rfl (hb hby at_117) (by decide) (by decide) k) ?_
      exact own_ret (t := .boolean) X5 hx Bd.returns hlk rfl (Or.inl ⟨rfl, by simp, _, rfl⟩) (hb hby at_121) (by decide) (by decide) ⟨rfl, Fr.nil _⟩
    · obtain ⟨T6, X6, e6, st6⟩ := own_callS (W := 0) (r := (some (.long (p1 + (1000000000 : Int64))))) (y := (⟨"com/example/manoa/manoa/postgres/Claims", "fromStartDue", "(JJ)J"⟩ : MethodName)) X0 hx hZ hown (hw _ (List.mem_of_getElem? (i := 1) rfl)) (hw _ (List.mem_of_getElem? (i := 2) rfl)) (hw _ (List.mem_of_getElem? (i := 3) rfl)) (hw _ (List.mem_of_getElem? (i := 4) rfl)) (by decide) (own_due l Z a0 hw p1 (p1 + d) (p1 + (1000000000 : Int64)) h0 SP (by rw [own_law p1 d b1 b2]; simp [hc4])) e0 (by decide) (by decide) (by decide) (by decide) (g := (mkF m 74 #[.val (.long p1), .second, .val (.long p2), .second, .val (.int p3), .val (.int (1 : Int32)), .val (.long d), .second, .val (.long (p1 + d)), .second, .unset, .unset, .unset, .unset] [(.long (p1 + d)), (.long p1)])) rfl (by rw [hml]; rfl) (argsL := [(.long p1), (.long (p1 + d))]) (rest := []) (lenOf pd_8 rfl) rfl (by show 2 * 0 + _ ≤ _; exact Nat.le_of_eq rfl) (hb hby at_74) rfl
      refine own_via (T' := T6) (g' := (mkF m 77 #[.val (.long p1), .second, .val (.long p2), .second, .val (.int p3), .val (.int (1 : Int32)), .val (.long d), .second, .val (.long (p1 + d)), .second, .unset, .unset, .unset, .unset] [(.long (p1 + (1000000000 : Int64)))])) st6 ?_
      refine own_via (T' := T6) (g' := (mkF m 79 #[.val (.long p1), .second, .val (.long p2), .second, .val (.int p3), .val (.int (1 : Int32)), .val (.long d), .second, .val (.long (p1 + d)), .second, .val (.long (p1 + (1000000000 : Int64))), .second, .unset, .unset] [])) (fun t k => XS.lstore X6.here hx rfl (hb hby at_77) rfl (l' := #[.val (.long p1), .second, .val (.long p2), .second, .val (.int p3), .val (.int (1 : Int32)), .val (.long d), .second, .val (.long (p1 + d)), .second, .val (.long (p1 + (1000000000 : Int64))), .second, .unset, .unset]) rfl k) ?_
      refine own_via (T' := T6) (g' := (mkF m 81 #[.val (.long p1), .second, .val (.long p2), .second, .val (.int p3), .val (.int (1 : Int32)), .val (.long d), .second, .val (.long (p1 + d)), .second, .val (.long (p1 + (1000000000 : Int64))), .second, .unset, .unset] [(.long d)])) (fun t k => XS.lload X6.here hx rfl (hb hby at_79) rfl k) ?_
      refine own_via (T' := T6) (g' := (mkF m 84 #[.val (.long p1), .second, .val (.long p2), .second, .val (.int p3), .val (.int (1 : Int32)), .val (.long d), .second, .val (.long (p1 + d)), .second, .val (.long (p1 + (1000000000 : Int64))), .second, .unset, .unset] [(.long (100000000 : Int64)), (.long d)])) (fun t k => Stand.ldc2J (g := (mkF m 81 #[.val (.long p1), .second, .val (.long p2), .second, .val (.int p3), .val (.int (1 : Int32)), .val (.long d), .second, .val (.long (p1 + d)), .second, .val (.long (p1 + (1000000000 : Int64))), .second, .unset, .unset] [(.long d)])) X6 hx hown (mvT hZ (hw _ (List.mem_of_getElem? (i := 12) rfl))) rfl (hb hby at_81) k) ?_
      refine own_via (T' := T6) (g' := (mkF m 85 #[.val (.long p1), .second, .val (.long p2), .second, .val (.int p3), .val (.int (1 : Int32)), .val (.long d), .second, .val (.long (p1 + d)), .second, .val (.long (p1 + (1000000000 : Int64))), .second, .unset, .unset] [(.int (lcmpW d (100000000 : Int64)))])) (fun t k => XS.lcmp X6.here hx rfl (hb hby at_84) rfl k) ?_
      refine own_via (T' := T6) (g' := (mkF m 88 #[.val (.long p1), .second, .val (.long p2), .second, .val (.int p3), .val (.int (1 : Int32)), .val (.long d), .second, .val (.long (p1 + d)), .second, .val (.long (p1 + (1000000000 : Int64))), .second, .unset, .unset] [])) (fun t k => XS.ifNo X6.here hx rfl (hb hby at_85) rfl ((if0 _ _).trans (flt (fun q => hc4 ((lw_gt d (100000000 : Int64)).mp q))).2.2.1) k) ?_
      refine own_via (T' := T6) (g' := (mkF m 89 #[.val (.long p1), .second, .val (.long p2), .second, .val (.int p3), .val (.int (1 : Int32)), .val (.long d), .second, .val (.long (p1 + d)), .second, .val (.long (p1 + (1000000000 : Int64))), .second, .unset, .unset] [(.long p1)])) (fun t k => XS.lloadN X6.here hx rfl (hb hby at_88) rfl k) ?_
      refine own_via (T' := T6) (g' := (mkF m 92 #[.val (.long p1), .second, .val (.long p2), .second, .val (.int p3), .val (.int (1 : Int32)), .val (.long d), .second, .val (.long (p1 + d)), .second, .val (.long (p1 + (1000000000 : Int64))), .second, .unset, .unset] [(.long (1000000000 : Int64)), (.long p1)])) (fun t k => Stand.ldc2J (g := (mkF m 89 #[.val (.long p1), .second, .val (.long p2), .second, .val (.int p3), .val (.int (1 : Int32)), .val (.long d), .second, .val (.long (p1 + d)), .second, .val (.long (p1 + (1000000000 : Int64))), .second, .unset, .unset] [(.long p1)])) X6 hx hown (mvT hZ (hw _ (List.mem_of_getElem? (i := 13) rfl))) rfl (hb hby at_89) k) ?_
      refine own_via (T' := T6) (g' := (mkF m 93 #[.val (.long p1), .second, .val (.long p2), .second, .val (.int p3), .val (.int (1 : Int32)), .val (.long d), .second, .val (.long (p1 + d)), .second, .val (.long (p1 + (1000000000 : Int64))), .second, .unset, .unset] [(.long (p1 + (1000000000 : Int64)))])) (fun t k => XS.ladd X6.here hx rfl (hb hby at_92) rfl k) ?_
      refine own_via (T' := T6) (g' := (mkF m 95 #[.val (.long p1), .second, .val (.long p2), .second, .val (.int p3), .val (.int (1 : Int32)), .val (.long d), .second, .val (.long (p1 + d)), .second, .val (.long (p1 + (1000000000 : Int64))), .second, .val (.long (p1 + (1000000000 : Int64))), .second] [])) (fun t k => XS.lstore X6.here hx rfl (hb hby at_93) rfl (l' := #[.val (.long p1), .second, .val (.long p2), .second, .val (.int p3), .val (.int (1 : Int32)), .val (.long d), .second, .val (.long (p1 + d)), .second, .val (.long (p1 + (1000000000 : Int64))), .second, .val (.long (p1 + (1000000000 : Int64))), .second]) rfl k) ?_
      refine own_via (T' := T6) (g' := (mkF m 108 #[.val (.long p1), .second, .val (.long p2), .second, .val (.int p3), .val (.int (1 : Int32)), .val (.long d), .second, .val (.long (p1 + d)), .second, .val (.long (p1 + (1000000000 : Int64))), .second, .val (.long (p1 + (1000000000 : Int64))), .second] [])) (fun t k => XS.goto X6.here hx rfl (pc0 := 95) (pc' := 108) rfl (hb hby at_95) (by decide) (by decide) k) ?_
      refine own_via (T' := T6) (g' := (mkF m 110 #[.val (.long p1), .second, .val (.long p2), .second, .val (.int p3), .val (.int (1 : Int32)), .val (.long d), .second, .val (.long (p1 + d)), .second, .val (.long (p1 + (1000000000 : Int64))), .second, .val (.long (p1 + (1000000000 : Int64))), .second] [(.long (p1 + (1000000000 : Int64)))])) (fun t k => XS.lload X6.here hx rfl (hb hby at_108) rfl k) ?_
      refine own_via (T' := T6) (g' := (mkF m 112 #[.val (.long p1), .second, .val (.long p2), .second, .val (.int p3), .val (.int (1 : Int32)), .val (.long d), .second, .val (.long (p1 + d)), .second, .val (.long (p1 + (1000000000 : Int64))), .second, .val (.long (p1 + (1000000000 : Int64))), .second] [(.long (p1 + (1000000000 : Int64))), (.long (p1 + (1000000000 : Int64)))])) (fun t k => XS.lload X6.here hx rfl (hb hby at_110) rfl k) ?_
      refine own_via (T' := T6) (g' := (mkF m 113 #[.val (.long p1), .second, .val (.long p2), .second, .val (.int p3), .val (.int (1 : Int32)), .val (.long d), .second, .val (.long (p1 + d)), .second, .val (.long (p1 + (1000000000 : Int64))), .second, .val (.long (p1 + (1000000000 : Int64))), .second] [(.int (lcmpW (p1 + (1000000000 : Int64)) (p1 + (1000000000 : Int64))))])) (fun t k => XS.lcmp X6.here hx rfl (hb hby at_112) rfl k) ?_
      refine own_via (T' := T6) (g' := (mkF m 116 #[.val (.long p1), .second, .val (.long p2), .second, .val (.int p3), .val (.int (1 : Int32)), .val (.long d), .second, .val (.long (p1 + d)), .second, .val (.long (p1 + (1000000000 : Int64))), .second, .val (.long (p1 + (1000000000 : Int64))), .second] [])) (fun t k => XS.ifNo X6.here hx rfl (hb hby at_113) rfl ((if0 _ _).trans (teq ((lw_eq (p1 + (1000000000 : Int64)) (p1 + (1000000000 : Int64))).mpr rfl)).2) k) ?_
      refine own_via (T' := T6) (g' := (mkF m 117 #[.val (.long p1), .second, .val (.long p2), .second, .val (.int p3), .val (.int (1 : Int32)), .val (.long d), .second, .val (.long (p1 + d)), .second, .val (.long (p1 + (1000000000 : Int64))), .second, .val (.long (p1 + (1000000000 : Int64))), .second] [(.int (1 : Int32))])) (fun t k => XS.iconst X6.here hx rfl (hb hby at_116) k) ?_
      refine own_via (T' := T6) (g' := (mkF m 121 #[.val (.long p1), .second, .val (.long p2), .second, .val (.int p3), .val (.int (1 : Int32)), .val (.long d), .second, .val (.long (p1 + d)), .second, .val (.long (p1 + (1000000000 : Int64))), .second, .val (.long (p1 + (1000000000 : Int64))), .second] [(.int (1 : Int32))])) (fun t k => XS.goto X6.here hx rfl (pc0 := 117) (pc' := 121) rfl (hb hby at_117) (by decide) (by decide) k) ?_
      exact own_ret (t := .boolean) X6 hx Bd.returns hlk rfl (Or.inl ⟨rfl, by simp, _, rfl⟩) (hb hby at_121) (by decide) (by decide) ⟨rfl, Fr.nil _⟩
  · refine own_via (T' := s₁) (g' := (mkF m 6 #[.val (.long p1), .second, .val (.long p2), .second, .val (.int p3), .val (.int (2 : Int32)), .unset, .unset, .unset, .unset, .unset, .unset, .unset, .unset] [])) (fun t k => XS.istore X0.here hx rfl (hb hby at_4) rfl (l' := #[.val (.long p1), .second, .val (.long p2), .second, .val (.int p3), .val (.int (2 : Int32)), .unset, .unset, .unset, .unset, .unset, .unset, .unset, .unset]) rfl k) ?_
    refine own_via (T' := s₁) (g' := (mkF m 8 #[.val (.long p1), .second, .val (.long p2), .second, .val (.int p3), .val (.int (2 : Int32)), .unset, .unset, .unset, .unset, .unset, .unset, .unset, .unset] [(.int (2 : Int32))])) (fun t k => XS.iload X0.here hx rfl (hb hby at_6) rfl k) ?_
    refine own_via (T' := s₁) (g' := (mkF m 21 #[.val (.long p1), .second, .val (.long p2), .second, .val (.int p3), .val (.int (2 : Int32)), .unset, .unset, .unset, .unset, .unset, .unset, .unset, .unset] [])) (fun t k => XS.ifYes X0.here hx rfl (pc0 := 8) (pc' := 21) rfl (hb hby at_8) rfl ((if0 _ _).trans (feq (by decide)).2) (by decide) (by decide) k) ?_
    refine own_via (T' := s₁) (g' := (mkF m 23 #[.val (.long p1), .second, .val (.long p2), .second, .val (.int p3), .val (.int (2 : Int32)), .unset, .unset, .unset, .unset, .unset, .unset, .unset, .unset] [(.int (2 : Int32))])) (fun t k => XS.iload X0.here hx rfl (hb hby at_21) rfl k) ?_
    refine own_via (T' := s₁) (g' := (mkF m 24 #[.val (.long p1), .second, .val (.long p2), .second, .val (.int p3), .val (.int (2 : Int32)), .unset, .unset, .unset, .unset, .unset, .unset, .unset, .unset] [(.int (1 : Int32)), (.int (2 : Int32))])) (fun t k => XS.iconst X0.here hx rfl (hb hby at_23) k) ?_
    refine own_via (T' := s₁) (g' := (mkF m 37 #[.val (.long p1), .second, .val (.long p2), .second, .val (.int p3), .val (.int (2 : Int32)), .unset, .unset, .unset, .unset, .unset, .unset, .unset, .unset] [])) (fun t k => XS.icmpYes X0.here hx rfl (pc0 := 24) (pc' := 37) rfl (hb hby at_24) rfl (feq (by decide)).2 (by decide) (by decide) k) ?_
    refine own_via (T' := s₁) (g' := (mkF m 39 #[.val (.long p1), .second, .val (.long p2), .second, .val (.int p3), .val (.int (2 : Int32)), .unset, .unset, .unset, .unset, .unset, .unset, .unset, .unset] [(.int (2 : Int32))])) (fun t k => XS.iload X0.here hx rfl (hb hby at_37) rfl k) ?_
    refine own_via (T' := s₁) (g' := (mkF m 40 #[.val (.long p1), .second, .val (.long p2), .second, .val (.int p3), .val (.int (2 : Int32)), .unset, .unset, .unset, .unset, .unset, .unset, .unset, .unset] [(.int (2 : Int32)), (.int (2 : Int32))])) (fun t k => XS.iconst X0.here hx rfl (hb hby at_39) k) ?_
    refine own_via (T' := s₁) (g' := (mkF m 43 #[.val (.long p1), .second, .val (.long p2), .second, .val (.int p3), .val (.int (2 : Int32)), .unset, .unset, .unset, .unset, .unset, .unset, .unset, .unset] [])) (fun t k => XS.icmpNo X0.here hx rfl (hb hby at_40) rfl (teq rfl).2 k) ?_
    refine own_via (T' := s₁) (g' := (mkF m 46 #[.val (.long p1), .second, .val (.long p2), .second, .val (.int p3), .val (.int (2 : Int32)), .unset, .unset, .unset, .unset, .unset, .unset, .unset, .unset] [(.long (99999996 : Int64))])) (fun t k => Stand.ldc2J (g := (mkF m 43 #[.val (.long p1), .second, .val (.long p2), .second, .val (.int p3), .val (.int (2 : Int32)), .unset, .unset, .unset, .unset, .unset, .unset, .unset, .unset] [])) X0 hx hown (mvT hZ (hw _ (List.mem_of_getElem? (i := 16) rfl))) rfl (hb hby at_43) k) ?_
    refine own_via (T' := s₁) (g' := (mkF m 47 #[.val (.long p1), .second, .val (.long p2), .second, .val (.int p3), .val (.int (2 : Int32)), .unset, .unset, .unset, .unset, .unset, .unset, .unset, .unset] [(.long p2), (.long (99999996 : Int64))])) (fun t k => XS.lloadN X0.here hx rfl (hb hby at_46) rfl k) ?_
    refine own_via (T' := s₁) (g' := (mkF m 50 #[.val (.long p1), .second, .val (.long p2), .second, .val (.int p3), .val (.int (2 : Int32)), .unset, .unset, .unset, .unset, .unset, .unset, .unset, .unset] [(.long (7 : Int64)), (.long p2), (.long (99999996 : Int64))])) (fun t k => Stand.ldc2J (g := (mkF m 47 #[.val (.long p1), .second, .val (.long p2), .second, .val (.int p3), .val (.int (2 : Int32)), .unset, .unset, .unset, .unset, .unset, .unset, .unset, .unset] [(.long p2), (.long (99999996 : Int64))])) X0 hx hown (mvT hZ (hw _ (List.mem_of_getElem? (i := 17) rfl))) rfl (hb hby at_47) k) ?_
    refine own_via (T' := s₁) (g' := (mkF m 51 #[.val (.long p1), .second, .val (.long p2), .second, .val (.int p3), .val (.int (2 : Int32)), .unset, .unset, .unset, .unset, .unset, .unset, .unset, .unset] [(.long (p2 &&& (7 : Int64))), (.long (99999996 : Int64))])) (fun t k => XS.land X0.here hx rfl (hb hby at_50) rfl k) ?_
    refine own_via (T' := s₁) (g' := (mkF m 52 #[.val (.long p1), .second, .val (.long p2), .second, .val (.int p3), .val (.int (2 : Int32)), .unset, .unset, .unset, .unset, .unset, .unset, .unset, .unset] [(.long ((99999996 : Int64) + (p2 &&& (7 : Int64))))])) (fun t k => XS.ladd X0.here hx rfl (hb hby at_51) rfl k) ?_
    generalize hd : ((99999996 : Int64) + (p2 &&& (7 : Int64))) = d
    obtain ⟨b1, b2⟩ := own_b2 p2 d hd
    refine own_via (T' := s₁) (g' := (mkF m 54 #[.val (.long p1), .second, .val (.long p2), .second, .val (.int p3), .val (.int (2 : Int32)), .val (.long d), .second, .unset, .unset, .unset, .unset, .unset, .unset] [])) (fun t k => XS.lstore X0.here hx rfl (hb hby at_52) rfl (l' := #[.val (.long p1), .second, .val (.long p2), .second, .val (.int p3), .val (.int (2 : Int32)), .val (.long d), .second, .unset, .unset, .unset, .unset, .unset, .unset]) rfl k) ?_
    refine own_via (T' := s₁) (g' := (mkF m 65 #[.val (.long p1), .second, .val (.long p2), .second, .val (.int p3), .val (.int (2 : Int32)), .val (.long d), .second, .unset, .unset, .unset, .unset, .unset, .unset] [])) (fun t k => XS.goto X0.here hx rfl (pc0 := 54) (pc' := 65) rfl (hb hby at_54) (by decide) (by decide) k) ?_
    refine own_via (T' := s₁) (g' := (mkF m 66 #[.val (.long p1), .second, .val (.long p2), .second, .val (.int p3), .val (.int (2 : Int32)), .val (.long d), .second, .unset, .unset, .unset, .unset, .unset, .unset] [(.long p1)])) (fun t k => XS.lloadN X0.here hx rfl (hb hby at_65) rfl k) ?_
    refine own_via (T' := s₁) (g' := (mkF m 68 #[.val (.long p1), .second, .val (.long p2), .second, .val (.int p3), .val (.int (2 : Int32)), .val (.long d), .second, .unset, .unset, .unset, .unset, .unset, .unset] [(.long d), (.long p1)])) (fun t k => XS.lload X0.here hx rfl (hb hby at_66) rfl k) ?_
    refine own_via (T' := s₁) (g' := (mkF m 69 #[.val (.long p1), .second, .val (.long p2), .second, .val (.int p3), .val (.int (2 : Int32)), .val (.long d), .second, .unset, .unset, .unset, .unset, .unset, .unset] [(.long (p1 + d))])) (fun t k => XS.ladd X0.here hx rfl (hb hby at_68) rfl k) ?_
    refine own_via (T' := s₁) (g' := (mkF m 71 #[.val (.long p1), .second, .val (.long p2), .second, .val (.int p3), .val (.int (2 : Int32)), .val (.long d), .second, .val (.long (p1 + d)), .second, .unset, .unset, .unset, .unset] [])) (fun t k => XS.lstore X0.here hx rfl (hb hby at_69) rfl (l' := #[.val (.long p1), .second, .val (.long p2), .second, .val (.int p3), .val (.int (2 : Int32)), .val (.long d), .second, .val (.long (p1 + d)), .second, .unset, .unset, .unset, .unset]) rfl k) ?_
    refine own_via (T' := s₁) (g' := (mkF m 72 #[.val (.long p1), .second, .val (.long p2), .second, .val (.int p3), .val (.int (2 : Int32)), .val (.long d), .second, .val (.long (p1 + d)), .second, .unset, .unset, .unset, .unset] [(.long p1)])) (fun t k => XS.lloadN X0.here hx rfl (hb hby at_71) rfl k) ?_
    refine own_via (T' := s₁) (g' := (mkF m 74 #[.val (.long p1), .second, .val (.long p2), .second, .val (.int p3), .val (.int (2 : Int32)), .val (.long d), .second, .val (.long (p1 + d)), .second, .unset, .unset, .unset, .unset] [(.long (p1 + d)), (.long p1)])) (fun t k => XS.lload X0.here hx rfl (hb hby at_72) rfl k) ?_
    by_cases hc7 : (100000000 : Int64) < d
    · obtain ⟨T8, X8, e8, st8⟩ := own_callS (W := 0) (r := (some (.long (p1 + ((10 : Int64) * d))))) (y := (⟨"com/example/manoa/manoa/postgres/Claims", "fromStartDue", "(JJ)J"⟩ : MethodName)) X0 hx hZ hown (hw _ (List.mem_of_getElem? (i := 1) rfl)) (hw _ (List.mem_of_getElem? (i := 2) rfl)) (hw _ (List.mem_of_getElem? (i := 3) rfl)) (hw _ (List.mem_of_getElem? (i := 4) rfl)) (by decide) (own_due l Z a0 hw p1 (p1 + d) (p1 + ((10 : Int64) * d)) h0 SP (by rw [own_law p1 d b1 b2]; simp [hc7])) e0 (by decide) (by decide) (by decide) (by decide) (g := (mkF m 74 #[.val (.long p1), .second, .val (.long p2), .second, .val (.int p3), .val (.int (2 : Int32)), .val (.long d), .second, .val (.long (p1 + d)), .second, .unset, .unset, .unset, .unset] [(.long (p1 + d)), (.long p1)])) rfl (by rw [hml]; rfl) (argsL := [(.long p1), (.long (p1 + d))]) (rest := []) (lenOf pd_8 rfl) rfl (by show 2 * 0 + _ ≤ _; exact Nat.le_of_eq rfl) (hb hby at_74) rfl
      refine own_via (T' := T8) (g' := (mkF m 77 #[.val (.long p1), .second, .val (.long p2), .second, .val (.int p3), .val (.int (2 : Int32)), .val (.long d), .second, .val (.long (p1 + d)), .second, .unset, .unset, .unset, .unset] [(.long (p1 + ((10 : Int64) * d)))])) st8 ?_
      refine own_via (T' := T8) (g' := (mkF m 79 #[.val (.long p1), .second, .val (.long p2), .second, .val (.int p3), .val (.int (2 : Int32)), .val (.long d), .second, .val (.long (p1 + d)), .second, .val (.long (p1 + ((10 : Int64) * d))), .second, .unset, .unset] [])) (fun t k => XS.lstore X8.here hx rfl (hb hby at_77) rfl (l' := #[.val (.long p1), .second, .val (.long p2), .second, .val (.int p3), .val (.int (2 : Int32)), .val (.long d), .second, .val (.long (p1 + d)), .second, .val (.long (p1 + ((10 : Int64) * d))), .second, .unset, .unset]) rfl k) ?_
      refine own_via (T' := T8) (g' := (mkF m 81 #[.val (.long p1), .second, .val (.long p2), .second, .val (.int p3), .val (.int (2 : Int32)), .val (.long d), .second, .val (.long (p1 + d)), .second, .val (.long (p1 + ((10 : Int64) * d))), .second, .unset, .unset] [(.long d)])) (fun t k => XS.lload X8.here hx rfl (hb hby at_79) rfl k) ?_
      refine own_via (T' := T8) (g' := (mkF m 84 #[.val (.long p1), .second, .val (.long p2), .second, .val (.int p3), .val (.int (2 : Int32)), .val (.long d), .second, .val (.long (p1 + d)), .second, .val (.long (p1 + ((10 : Int64) * d))), .second, .unset, .unset] [(.long (100000000 : Int64)), (.long d)])) (fun t k => Stand.ldc2J (g := (mkF m 81 #[.val (.long p1), .second, .val (.long p2), .second, .val (.int p3), .val (.int (2 : Int32)), .val (.long d), .second, .val (.long (p1 + d)), .second, .val (.long (p1 + ((10 : Int64) * d))), .second, .unset, .unset] [(.long d)])) X8 hx hown (mvT hZ (hw _ (List.mem_of_getElem? (i := 12) rfl))) rfl (hb hby at_81) k) ?_
      refine own_via (T' := T8) (g' := (mkF m 85 #[.val (.long p1), .second, .val (.long p2), .second, .val (.int p3), .val (.int (2 : Int32)), .val (.long d), .second, .val (.long (p1 + d)), .second, .val (.long (p1 + ((10 : Int64) * d))), .second, .unset, .unset] [(.int (lcmpW d (100000000 : Int64)))])) (fun t k => XS.lcmp X8.here hx rfl (hb hby at_84) rfl k) ?_
      refine own_via (T' := T8) (g' := (mkF m 98 #[.val (.long p1), .second, .val (.long p2), .second, .val (.int p3), .val (.int (2 : Int32)), .val (.long d), .second, .val (.long (p1 + d)), .second, .val (.long (p1 + ((10 : Int64) * d))), .second, .unset, .unset] [])) (fun t k => XS.ifYes X8.here hx rfl (pc0 := 85) (pc' := 98) rfl (hb hby at_85) rfl ((if0 _ _).trans (tlt ((lw_gt d (100000000 : Int64)).mpr hc7)).2.2.1) (by decide) (by decide) k) ?_
      refine own_via (T' := T8) (g' := (mkF m 99 #[.val (.long p1), .second, .val (.long p2), .second, .val (.int p3), .val (.int (2 : Int32)), .val (.long d), .second, .val (.long (p1 + d)), .second, .val (.long (p1 + ((10 : Int64) * d))), .second, .unset, .unset] [(.long p1)])) (fun t k => XS.lloadN X8.here hx rfl (hb hby at_98) rfl k) ?_
      refine own_via (T' := T8) (g' := (mkF m 102 #[.val (.long p1), .second, .val (.long p2), .second, .val (.int p3), .val (.int (2 : Int32)), .val (.long d), .second, .val (.long (p1 + d)), .second, .val (.long (p1 + ((10 : Int64) * d))), .second, .unset, .unset] [(.long (10 : Int64)), (.long p1)])) (fun t k => Stand.ldc2J (g := (mkF m 99 #[.val (.long p1), .second, .val (.long p2), .second, .val (.int p3), .val (.int (2 : Int32)), .val (.long d), .second, .val (.long (p1 + d)), .second, .val (.long (p1 + ((10 : Int64) * d))), .second, .unset, .unset] [(.long p1)])) X8 hx hown (mvT hZ (hw _ (List.mem_of_getElem? (i := 14) rfl))) rfl (hb hby at_99) k) ?_
      refine own_via (T' := T8) (g' := (mkF m 104 #[.val (.long p1), .second, .val (.long p2), .second, .val (.int p3), .val (.int (2 : Int32)), .val (.long d), .second, .val (.long (p1 + d)), .second, .val (.long (p1 + ((10 : Int64) * d))), .second, .unset, .unset] [(.long d), (.long (10 : Int64)), (.long p1)])) (fun t k => XS.lload X8.here hx rfl (hb hby at_102) rfl k) ?_
      refine own_via (T' := T8) (g' := (mkF m 105 #[.val (.long p1), .second, .val (.long p2), .second, .val (.int p3), .val (.int (2 : Int32)), .val (.long d), .second, .val (.long (p1 + d)), .second, .val (.long (p1 + ((10 : Int64) * d))), .second, .unset, .unset] [(.long ((10 : Int64) * d)), (.long p1)])) (fun t k => XS.lmul X8.here hx rfl (hb hby at_104) rfl k) ?_
      refine own_via (T' := T8) (g' := (mkF m 106 #[.val (.long p1), .second, .val (.long p2), .second, .val (.int p3), .val (.int (2 : Int32)), .val (.long d), .second, .val (.long (p1 + d)), .second, .val (.long (p1 + ((10 : Int64) * d))), .second, .unset, .unset] [(.long (p1 + ((10 : Int64) * d)))])) (fun t k => XS.ladd X8.here hx rfl (hb hby at_105) rfl k) ?_
      refine own_via (T' := T8) (g' := (mkF m 108 #[.val (.long p1), .second, .val (.long p2), .second, .val (.int p3), .val (.int (2 : Int32)), .val (.long d), .second, .val (.long (p1 + d)), .second, .val (.long (p1 + ((10 : Int64) * d))), .second, .val (.long (p1 + ((10 : Int64) * d))), .second] [])) (fun t k => XS.lstore X8.here hx rfl (hb hby at_106) rfl (l' := #[.val (.long p1), .second, .val (.long p2), .second, .val (.int p3), .val (.int (2 : Int32)), .val (.long d), .second, .val (.long (p1 + d)), .second, .val (.long (p1 + ((10 : Int64) * d))), .second, .val (.long (p1 + ((10 : Int64) * d))), .second]) rfl k) ?_
      refine own_via (T' := T8) (g' := (mkF m 110 #[.val (.long p1), .second, .val (.long p2), .second, .val (.int p3), .val (.int (2 : Int32)), .val (.long d), .second, .val (.long (p1 + d)), .second, .val (.long (p1 + ((10 : Int64) * d))), .second, .val (.long (p1 + ((10 : Int64) * d))), .second] [(.long (p1 + ((10 : Int64) * d)))])) (fun t k => XS.lload X8.here hx rfl (hb hby at_108) rfl k) ?_
      refine own_via (T' := T8) (g' := (mkF m 112 #[.val (.long p1), .second, .val (.long p2), .second, .val (.int p3), .val (.int (2 : Int32)), .val (.long d), .second, .val (.long (p1 + d)), .second, .val (.long (p1 + ((10 : Int64) * d))), .second, .val (.long (p1 + ((10 : Int64) * d))), .second] [(.long (p1 + ((10 : Int64) * d))), (.long (p1 + ((10 : Int64) * d)))])) (fun t k => XS.lload X8.here hx rfl (hb hby at_110) rfl k) ?_
      refine own_via (T' := T8) (g' := (mkF m 113 #[.val (.long p1), .second, .val (.long p2), .second, .val (.int p3), .val (.int (2 : Int32)), .val (.long d), .second, .val (.long (p1 + d)), .second, .val (.long (p1 + ((10 : Int64) * d))), .second, .val (.long (p1 + ((10 : Int64) * d))), .second] [(.int (lcmpW (p1 + ((10 : Int64) * d)) (p1 + ((10 : Int64) * d))))])) (fun t k => XS.lcmp X8.here hx rfl (hb hby at_112) rfl k) ?_
      refine own_via (T' := T8) (g' := (mkF m 116 #[.val (.long p1), .second, .val (.long p2), .second, .val (.int p3), .val (.int (2 : Int32)), .val (.long d), .second, .val (.long (p1 + d)), .second, .val (.long (p1 + ((10 : Int64) * d))), .second, .val (.long (p1 + ((10 : Int64) * d))), .second] [])) (fun t k => XS.ifNo X8.here hx rfl (hb hby at_113) rfl ((if0 _ _).trans (teq ((lw_eq (p1 + ((10 : Int64) * d)) (p1 + ((10 : Int64) * d))).mpr rfl)).2) k) ?_
      refine own_via (T' := T8) (g' := (mkF m 117 #[.val (.long p1), .second, .val (.long p2), .second, .val (.int p3), .val (.int (2 : Int32)), .val (.long d), .second, .val (.long (p1 + d)), .second, .val (.long (p1 + ((10 : Int64) * d))), .second, .val (.long (p1 + ((10 : Int64) * d))), .second] [(.int (1 : Int32))])) (fun t k => XS.iconst X8.here hx rfl (hb hby at_116) k) ?_
      refine own_via (T' := T8) (g' := (mkF m 121 #[.val (.long p1), .second, .val (.long p2), .second, .val (.int p3), .val (.int (2 : Int32)), .val (.long d), .second, .val (.long (p1 + d)), .second, .val (.long (p1 + ((10 : Int64) * d))), .second, .val (.long (p1 + ((10 : Int64) * d))), .second] [(.int (1 : Int32))])) (fun t k => XS.goto X8.here hx rfl (pc0 := 117) (pc' := 121) rfl (hb hby at_117) (by decide) (by decide) k) ?_
      exact own_ret (t := .boolean) X8 hx Bd.returns hlk rfl (Or.inl ⟨rfl, by simp, _, rfl⟩) (hb hby at_121) (by decide) (by decide) ⟨rfl, Fr.nil _⟩
    · obtain ⟨T9, X9, e9, st9⟩ := own_callS (W := 0) (r := (some (.long (p1 + (1000000000 : Int64))))) (y := (⟨"com/example/manoa/manoa/postgres/Claims", "fromStartDue", "(JJ)J"⟩ : MethodName)) X0 hx hZ hown (hw _ (List.mem_of_getElem? (i := 1) rfl)) (hw _ (List.mem_of_getElem? (i := 2) rfl)) (hw _ (List.mem_of_getElem? (i := 3) rfl)) (hw _ (List.mem_of_getElem? (i := 4) rfl)) (by decide) (own_due l Z a0 hw p1 (p1 + d) (p1 + (1000000000 : Int64)) h0 SP (by rw [own_law p1 d b1 b2]; simp [hc7])) e0 (by decide) (by decide) (by decide) (by decide) (g := (mkF m 74 #[.val (.long p1), .second, .val (.long p2), .second, .val (.int p3), .val (.int (2 : Int32)), .val (.long d), .second, .val (.long (p1 + d)), .second, .unset, .unset, .unset, .unset] [(.long (p1 + d)), (.long p1)])) rfl (by rw [hml]; rfl) (argsL := [(.long p1), (.long (p1 + d))]) (rest := []) (lenOf pd_8 rfl) rfl (by show 2 * 0 + _ ≤ _; exact Nat.le_of_eq rfl) (hb hby at_74) rfl
      refine own_via (T' := T9) (g' := (mkF m 77 #[.val (.long p1), .second, .val (.long p2), .second, .val (.int p3), .val (.int (2 : Int32)), .val (.long d), .second, .val (.long (p1 + d)), .second, .unset, .unset, .unset, .unset] [(.long (p1 + (1000000000 : Int64)))])) st9 ?_
      refine own_via (T' := T9) (g' := (mkF m 79 #[.val (.long p1), .second, .val (.long p2), .second, .val (.int p3), .val (.int (2 : Int32)), .val (.long d), .second, .val (.long (p1 + d)), .second, .val (.long (p1 + (1000000000 : Int64))), .second, .unset, .unset] [])) (fun t k => XS.lstore X9.here hx rfl (hb hby at_77) rfl (l' := #[.val (.long p1), .second, .val (.long p2), .second, .val (.int p3), .val (.int (2 : Int32)), .val (.long d), .second, .val (.long (p1 + d)), .second, .val (.long (p1 + (1000000000 : Int64))), .second, .unset, .unset]) rfl k) ?_
      refine own_via (T' := T9) (g' := (mkF m 81 #[.val (.long p1), .second, .val (.long p2), .second, .val (.int p3), .val (.int (2 : Int32)), .val (.long d), .second, .val (.long (p1 + d)), .second, .val (.long (p1 + (1000000000 : Int64))), .second, .unset, .unset] [(.long d)])) (fun t k => XS.lload X9.here hx rfl (hb hby at_79) rfl k) ?_
      refine own_via (T' := T9) (g' := (mkF m 84 #[.val (.long p1), .second, .val (.long p2), .second, .val (.int p3), .val (.int (2 : Int32)), .val (.long d), .second, .val (.long (p1 + d)), .second, .val (.long (p1 + (1000000000 : Int64))), .second, .unset, .unset] [(.long (100000000 : Int64)), (.long d)])) (fun t k => Stand.ldc2J (g := (mkF m 81 #[.val (.long p1), .second, .val (.long p2), .second, .val (.int p3), .val (.int (2 : Int32)), .val (.long d), .second, .val (.long (p1 + d)), .second, .val (.long (p1 + (1000000000 : Int64))), .second, .unset, .unset] [(.long d)])) X9 hx hown (mvT hZ (hw _ (List.mem_of_getElem? (i := 12) rfl))) rfl (hb hby at_81) k) ?_
      refine own_via (T' := T9) (g' := (mkF m 85 #[.val (.long p1), .second, .val (.long p2), .second, .val (.int p3), .val (.int (2 : Int32)), .val (.long d), .second, .val (.long (p1 + d)), .second, .val (.long (p1 + (1000000000 : Int64))), .second, .unset, .unset] [(.int (lcmpW d (100000000 : Int64)))])) (fun t k => XS.lcmp X9.here hx rfl (hb hby at_84) rfl k) ?_
      refine own_via (T' := T9) (g' := (mkF m 88 #[.val (.long p1), .second, .val (.long p2), .second, .val (.int p3), .val (.int (2 : Int32)), .val (.long d), .second, .val (.long (p1 + d)), .second, .val (.long (p1 + (1000000000 : Int64))), .second, .unset, .unset] [])) (fun t k => XS.ifNo X9.here hx rfl (hb hby at_85) rfl ((if0 _ _).trans (flt (fun q => hc7 ((lw_gt d (100000000 : Int64)).mp q))).2.2.1) k) ?_
      refine own_via (T' := T9) (g' := (mkF m 89 #[.val (.long p1), .second, .val (.long p2), .second, .val (.int p3), .val (.int (2 : Int32)), .val (.long d), .second, .val (.long (p1 + d)), .second, .val (.long (p1 + (1000000000 : Int64))), .second, .unset, .unset] [(.long p1)])) (fun t k => XS.lloadN X9.here hx rfl (hb hby at_88) rfl k) ?_
      refine own_via (T' := T9) (g' := (mkF m 92 #[.val (.long p1), .second, .val (.long p2), .second, .val (.int p3), .val (.int (2 : Int32)), .val (.long d), .second, .val (.long (p1 + d)), .second, .val (.long (p1 + (1000000000 : Int64))), .second, .unset, .unset] [(.long (1000000000 : Int64)), (.long p1)])) (fun t k => Stand.ldc2J (g := (mkF m 89 #[.val (.long p1), .second, .val (.long p2), .second, .val (.int p3), .val (.int (2 : Int32)), .val (.long d), .second, .val (.long (p1 + d)), .second, .val (.long (p1 + (1000000000 : Int64))), .second, .unset, .unset] [(.long p1)])) X9 hx hown (mvT hZ (hw _ (List.mem_of_getElem? (i := 13) rfl))) rfl (hb hby at_89) k) ?_
      refine own_via (T' := T9) (g' := (mkF m 93 #[.val (.long p1), .second, .val (.long p2), .second, .val (.int p3), .val (.int (2 : Int32)), .val (.long d), .second, .val (.long (p1 + d)), .second, .val (.long (p1 + (1000000000 : Int64))), .second, .unset, .unset] [(.long (p1 + (1000000000 : Int64)))])) (fun t k => XS.ladd X9.here hx rfl (hb hby at_92) rfl k) ?_
      refine own_via (T' := T9) (g' := (mkF m 95 #[.val (.long p1), .second, .val (.long p2), .second, .val (.int p3), .val (.int (2 : Int32)), .val (.long d), .second, .val (.long (p1 + d)), .second, .val (.long (p1 + (1000000000 : Int64))), .second, .val (.long (p1 + (1000000000 : Int64))), .second] [])) (fun t k => XS.lstore X9.here hx rfl (hb hby at_93) rfl (l' := #[.val (.long p1), .second, .val (.long p2), .second, .val (.int p3), .val (.int (2 : Int32)), .val (.long d), .second, .val (.long (p1 + d)), .second, .val (.long (p1 + (1000000000 : Int64))), .second, .val (.long (p1 + (1000000000 : Int64))), .second]) rfl k) ?_
      refine own_via (T' := T9) (g' := (mkF m 108 #[.val (.long p1), .second, .val (.long p2), .second, .val (.int p3), .val (.int (2 : Int32)), .val (.long d), .second, .val (.long (p1 + d)), .second, .val (.long (p1 + (1000000000 : Int64))), .second, .val (.long (p1 + (1000000000 : Int64))), .second] [])) (fun t k => XS.goto X9.here hx rfl (pc0 := 95) (pc' := 108) rfl (hb hby at_95) (by decide) (by decide) k) ?_
      refine own_via (T' := T9) (g' := (mkF m 110 #[.val (.long p1), .second, .val (.long p2), .second, .val (.int p3), .val (.int (2 : Int32)), .val (.long d), .second, .val (.long (p1 + d)), .second, .val (.long (p1 + (1000000000 : Int64))), .second, .val (.long (p1 + (1000000000 : Int64))), .second] [(.long (p1 + (1000000000 : Int64)))])) (fun t k => XS.lload X9.here hx rfl (hb hby at_108) rfl k) ?_
      refine own_via (T' := T9) (g' := (mkF m 112 #[.val (.long p1), .second, .val (.long p2), .second, .val (.int p3), .val (.int (2 : Int32)), .val (.long d), .second, .val (.long (p1 + d)), .second, .val (.long (p1 + (1000000000 : Int64))), .second, .val (.long (p1 + (1000000000 : Int64))), .second] [(.long (p1 + (1000000000 : Int64))), (.long (p1 + (1000000000 : Int64)))])) (fun t k => XS.lload X9.here hx rfl (hb hby at_110) rfl k) ?_
      refine own_via (T' := T9) (g' := (mkF m 113 #[.val (.long p1), .second, .val (.long p2), .second, .val (.int p3), .val (.int (2 : Int32)), .val (.long d), .second, .val (.long (p1 + d)), .second, .val (.long (p1 + (1000000000 : Int64))), .second, .val (.long (p1 + (1000000000 : Int64))), .second] [(.int (lcmpW (p1 + (1000000000 : Int64)) (p1 + (1000000000 : Int64))))])) (fun t k => XS.lcmp X9.here hx rfl (hb hby at_112) rfl k) ?_
      refine own_via (T' := T9) (g' := (mkF m 116 #[.val (.long p1), .second, .val (.long p2), .second, .val (.int p3), .val (.int (2 : Int32)), .val (.long d), .second, .val (.long (p1 + d)), .second, .val (.long (p1 + (1000000000 : Int64))), .second, .val (.long (p1 + (1000000000 : Int64))), .second] [])) (fun t k => XS.ifNo X9.here hx rfl (hb hby at_113) rfl ((if0 _ _).trans (teq ((lw_eq (p1 + (1000000000 : Int64)) (p1 + (1000000000 : Int64))).mpr rfl)).2) k) ?_
      refine own_via (T' := T9) (g' := (mkF m 117 #[.val (.long p1), .second, .val (.long p2), .second, .val (.int p3), .val (.int (2 : Int32)), .val (.long d), .second, .val (.long (p1 + d)), .second, .val (.long (p1 + (1000000000 : Int64))), .second, .val (.long (p1 + (1000000000 : Int64))), .second] [(.int (1 : Int32))])) (fun t k => XS.iconst X9.here hx rfl (hb hby at_116) k) ?_
      refine own_via (T' := T9) (g' := (mkF m 121 #[.val (.long p1), .second, .val (.long p2), .second, .val (.int p3), .val (.int (2 : Int32)), .val (.long d), .second, .val (.long (p1 + d)), .second, .val (.long (p1 + (1000000000 : Int64))), .second, .val (.long (p1 + (1000000000 : Int64))), .second] [(.int (1 : Int32))])) (fun t k => XS.goto X9.here hx rfl (pc0 := 117) (pc' := 121) rfl (hb hby at_117) (by decide) (by decide) k) ?_
      exact own_ret (t := .boolean) X9 hx Bd.returns hlk rfl (Or.inl ⟨rfl, by simp, _, rfl⟩) (hb hby at_121) (by decide) (by decide) ⟨rfl, Fr.nil _⟩
  · refine own_via (T' := s₁) (g' := (mkF m 6 #[.val (.long p1), .second, .val (.long p2), .second, .val (.int p3), .val (.int (3 : Int32)), .unset, .unset, .unset, .unset, .unset, .unset, .unset, .unset] [])) (fun t k => XS.istore X0.here hx rfl (hb hby at_4) rfl (l' := #[.val (.long p1), .second, .val (.long p2), .second, .val (.int p3), .val (.int (3 : Int32)), .unset, .unset, .unset, .unset, .unset, .unset, .unset, .unset]) rfl k) ?_
    refine own_via (T' := s₁) (g' := (mkF m 8 #[.val (.long p1), .second, .val (.long p2), .second, .val (.int p3), .val (.int (3 : Int32)), .unset, .unset, .unset, .unset, .unset, .unset, .unset, .unset] [(.int (3 : Int32))])) (fun t k => XS.iload X0.here hx rfl (hb hby at_6) rfl k) ?_
    refine own_via (T' := s₁) (g' := (mkF m 21 #[.val (.long p1), .second, .val (.long p2), .second, .val (.int p3), .val (.int (3 : Int32)), .unset, .unset, .unset, .unset, .unset, .unset, .unset, .unset] [])) (fun t k => XS.ifYes X0.here hx rfl (pc0 := 8) (pc' := 21) rfl (hb hby at_8) rfl ((if0 _ _).trans (feq (by decide)).2) (by decide) (by decide) k) ?_
    refine own_via (T' := s₁) (g' := (mkF m 23 #[.val (.long p1), .second, .val (.long p2), .second, .val (.int p3), .val (.int (3 : Int32)), .unset, .unset, .unset, .unset, .unset, .unset, .unset, .unset] [(.int (3 : Int32))])) (fun t k => XS.iload X0.here hx rfl (hb hby at_21) rfl k) ?_
    refine own_via (T' := s₁) (g' := (mkF m 24 #[.val (.long p1), .second, .val (.long p2), .second, .val (.int p3), .val (.int (3 : Int32)), .unset, .unset, .unset, .unset, .unset, .unset, .unset, .unset] [(.int (1 : Int32)), (.int (3 : Int32))])) (fun t k => XS.iconst X0.here hx rfl (hb hby at_23) k) ?_
    refine own_via (T' := s₁) (g' := (mkF m 37 #[.val (.long p1), .second, .val (.long p2), .second, .val (.int p3), .val (.int (3 : Int32)), .unset, .unset, .unset, .unset, .unset, .unset, .unset, .unset] [])) (fun t k => XS.icmpYes X0.here hx rfl (pc0 := 24) (pc' := 37) rfl (hb hby at_24) rfl (feq (by decide)).2 (by decide) (by decide) k) ?_
    refine own_via (T' := s₁) (g' := (mkF m 39 #[.val (.long p1), .second, .val (.long p2), .second, .val (.int p3), .val (.int (3 : Int32)), .unset, .unset, .unset, .unset, .unset, .unset, .unset, .unset] [(.int (3 : Int32))])) (fun t k => XS.iload X0.here hx rfl (hb hby at_37) rfl k) ?_
    refine own_via (T' := s₁) (g' := (mkF m 40 #[.val (.long p1), .second, .val (.long p2), .second, .val (.int p3), .val (.int (3 : Int32)), .unset, .unset, .unset, .unset, .unset, .unset, .unset, .unset] [(.int (2 : Int32)), (.int (3 : Int32))])) (fun t k => XS.iconst X0.here hx rfl (hb hby at_39) k) ?_
    refine own_via (T' := s₁) (g' := (mkF m 57 #[.val (.long p1), .second, .val (.long p2), .second, .val (.int p3), .val (.int (3 : Int32)), .unset, .unset, .unset, .unset, .unset, .unset, .unset, .unset] [])) (fun t k => XS.icmpYes X0.here hx rfl (pc0 := 40) (pc' := 57) rfl (hb hby at_40) rfl (feq (by decide)).2 (by decide) (by decide) k) ?_
    refine own_via (T' := s₁) (g' := (mkF m 58 #[.val (.long p1), .second, .val (.long p2), .second, .val (.int p3), .val (.int (3 : Int32)), .unset, .unset, .unset, .unset, .unset, .unset, .unset, .unset] [(.long p2)])) (fun t k => XS.lloadN X0.here hx rfl (hb hby at_57) rfl k) ?_
    refine own_via (T' := s₁) (g' := (mkF m 61 #[.val (.long p1), .second, .val (.long p2), .second, .val (.int p3), .val (.int (3 : Int32)), .unset, .unset, .unset, .unset, .unset, .unset, .unset, .unset] [(.long (576460752303423487 : Int64)), (.long p2)])) (fun t k => Stand.ldc2J (g := (mkF m 58 #[.val (.long p1), .second, .val (.long p2), .second, .val (.int p3), .val (.int (3 : Int32)), .unset, .unset, .unset, .unset, .unset, .unset, .unset, .unset] [(.long p2)])) X0 hx hown (mvT hZ (hw _ (List.mem_of_getElem? (i := 0) rfl))) rfl (hb hby at_58) k) ?_
    refine own_via (T' := s₁) (g' := (mkF m 62 #[.val (.long p1), .second, .val (.long p2), .second, .val (.int p3), .val (.int (3 : Int32)), .unset, .unset, .unset, .unset, .unset, .unset, .unset, .unset] [(.long (p2 &&& (576460752303423487 : Int64)))])) (fun t k => XS.land X0.here hx rfl (hb hby at_61) rfl k) ?_
    refine own_via (T' := s₁) (g' := (mkF m 63 #[.val (.long p1), .second, .val (.long p2), .second, .val (.int p3), .val (.int (3 : Int32)), .unset, .unset, .unset, .unset, .unset, .unset, .unset, .unset] [(.long (-(p2 &&& (576460752303423487 : Int64))))])) (fun t k => XS.lneg X0.here hx rfl (hb hby at_62) rfl k) ?_
    generalize hd : (-(p2 &&& (576460752303423487 : Int64))) = d
    obtain ⟨b1, b2⟩ := own_b3 p2 d hd
    refine own_via (T' := s₁) (g' := (mkF m 65 #[.val (.long p1), .second, .val (.long p2), .second, .val (.int p3), .val (.int (3 : Int32)), .val (.long d), .second, .unset, .unset, .unset, .unset, .unset, .unset] [])) (fun t k => XS.lstore X0.here hx rfl (hb hby at_63) rfl (l' := #[.val (.long p1), .second, .val (.long p2), .second, .val (.int p3), .val (.int (3 : Int32)), .val (.long d), .second, .unset, .unset, .unset, .unset, .unset, .unset]) rfl k) ?_
    refine own_via (T' := s₁) (g' := (mkF m 66 #[.val (.long p1), .second, .val (.long p2), .second, .val (.int p3), .val (.int (3 : Int32)), .val (.long d), .second, .unset, .unset, .unset, .unset, .unset, .unset] [(.long p1)])) (fun t k => XS.lloadN X0.here hx rfl (hb hby at_65) rfl k) ?_
    refine own_via (T' := s₁) (g' := (mkF m 68 #[.val (.long p1), .second, .val (.long p2), .second, .val (.int p3), .val (.int (3 : Int32)), .val (.long d), .second, .unset, .unset, .unset, .unset, .unset, .unset] [(.long d), (.long p1)])) (fun t k => XS.lload X0.here hx rfl (hb hby at_66) rfl k) ?_
    refine own_via (T' := s₁) (g' := (mkF m 69 #[.val (.long p1), .second, .val (.long p2), .second, .val (.int p3), .val (.int (3 : Int32)), .val (.long d), .second, .unset, .unset, .unset, .unset, .unset, .unset] [(.long (p1 + d))])) (fun t k => XS.ladd X0.here hx rfl (hb hby at_68) rfl k) ?_
    refine own_via (T' := s₁) (g' := (mkF m 71 #[.val (.long p1), .second, .val (.long p2), .second, .val (.int p3), .val (.int (3 : Int32)), .val (.long d), .second, .val (.long (p1 + d)), .second, .unset, .unset, .unset, .unset] [])) (fun t k => XS.lstore X0.here hx rfl (hb hby at_69) rfl (l' := #[.val (.long p1), .second, .val (.long p2), .second, .val (.int p3), .val (.int (3 : Int32)), .val (.long d), .second, .val (.long (p1 + d)), .second, .unset, .unset, .unset, .unset]) rfl k) ?_
    refine own_via (T' := s₁) (g' := (mkF m 72 #[.val (.long p1), .second, .val (.long p2), .second, .val (.int p3), .val (.int (3 : Int32)), .val (.long d), .second, .val (.long (p1 + d)), .second, .unset, .unset, .unset, .unset] [(.long p1)])) (fun t k => XS.lloadN X0.here hx rfl (hb hby at_71) rfl k) ?_
    refine own_via (T' := s₁) (g' := (mkF m 74 #[.val (.long p1), .second, .val (.long p2), .second, .val (.int p3), .val (.int (3 : Int32)), .val (.long d), .second, .val (.long (p1 + d)), .second, .unset, .unset, .unset, .unset] [(.long (p1 + d)), (.long p1)])) (fun t k => XS.lload X0.here hx rfl (hb hby at_72) rfl k) ?_
    by_cases hc10 : (100000000 : Int64) < d
    · obtain ⟨T11, X11, e11, st11⟩ := own_callS (W := 0) (r := (some (.long (p1 + ((10 : Int64) * d))))) (y := (⟨"com/example/manoa/manoa/postgres/Claims", "fromStartDue", "(JJ)J"⟩ : MethodName)) X0 hx hZ hown (hw _ (List.mem_of_getElem? (i := 1) rfl)) (hw _ (List.mem_of_getElem? (i := 2) rfl)) (hw _ (List.mem_of_getElem? (i := 3) rfl)) (hw _ (List.mem_of_getElem? (i := 4) rfl)) (by decide) (own_due l Z a0 hw p1 (p1 + d) (p1 + ((10 : Int64) * d)) h0 SP (by rw [own_law p1 d b1 b2]; simp [hc10])) e0 (by decide) (by decide) (by decide) (by decide) (g := (mkF m 74 #[.val (.long p1), .second, .val (.long p2), .second, .val (.int p3), .val (.int (3 : Int32)), .val (.long d), .second, .val (.long (p1 + d)), .second, .unset, .unset, .unset, .unset] [(.long (p1 + d)), (.long p1)])) rfl (by rw [hml]; rfl) (argsL := [(.long p1), (.long (p1 + d))]) (rest := []) (lenOf pd_8 rfl) rfl (by show 2 * 0 + _ ≤ _; exact Nat.le_of_eq rfl) (hb hby at_74) rfl
      refine own_via (T' := T11) (g' := (mkF m 77 #[.val (.long p1), .second, .val (.long p2), .second, .val (.int p3), .val (.int (3 : Int32)), .val (.long d), .second, .val (.long (p1 + d)), .second, .unset, .unset, .unset, .unset] [(.long (p1 + ((10 : Int64) * d)))])) st11 ?_
      refine own_via (T' := T11) (g' := (mkF m 79 #[.val (.long p1), .second, .val (.long p2), .second, .val (.int p3), .val (.int (3 : Int32)), .val (.long d), .second, .val (.long (p1 + d)), .second, .val (.long (p1 + ((10 : Int64) * d))), .second, .unset, .unset] [])) (fun t k => XS.lstore X11.here hx rfl (hb hby at_77) rfl (l' := #[.val (.long p1), .second, .val (.long p2), .second, .val (.int p3), .val (.int (3 : Int32)), .val (.long d), .second, .val (.long (p1 + d)), .second, .val (.long (p1 + ((10 : Int64) * d))), .second, .unset, .unset]) rfl k) ?_
      refine own_via (T' := T11) (g' := (mkF m 81 #[.val (.long p1), .second, .val (.long p2), .second, .val (.int p3), .val (.int (3 : Int32)), .val (.long d), .second, .val (.long (p1 + d)), .second, .val (.long (p1 + ((10 : Int64) * d))), .second, .unset, .unset] [(.long d)])) (fun t k => XS.lload X11.here hx rfl (hb hby at_79) rfl k) ?_
      refine own_via (T' := T11) (g' := (mkF m 84 #[.val (.long p1), .second, .val (.long p2), .second, .val (.int p3), .val (.int (3 : Int32)), .val (.long d), .second, .val (.long (p1 + d)), .second, .val (.long (p1 + ((10 : Int64) * d))), .second, .unset, .unset] [(.long (100000000 : Int64)), (.long d)])) (fun t k => Stand.ldc2J (g := (mkF m 81 #[.val (.long p1), .second, .val (.long p2), .second, .val (.int p3), .val (.int (3 : Int32)), .val (.long d), .second, .val (.long (p1 + d)), .second, .val (.long (p1 + ((10 : Int64) * d))), .second, .unset, .unset] [(.long d)])) X11 hx hown (mvT hZ (hw _ (List.mem_of_getElem? (i := 12) rfl))) rfl (hb hby at_81) k) ?_
      refine own_via (T' := T11) (g' := (mkF m 85 #[.val (.long p1), .second, .val (.long p2), .second, .val (.int p3), .val (.int (3 : Int32)), .val (.long d), .second, .val (.long (p1 + d)), .second, .val (.long (p1 + ((10 : Int64) * d))), .second, .unset, .unset] [(.int (lcmpW d (100000000 : Int64)))])) (fun t k => XS.lcmp X11.here hx rfl (hb hby at_84) rfl k) ?_
      refine own_via (T' := T11) (g' := (mkF m 98 #[.val (.long p1), .second, .val (.long p2), .second, .val (.int p3), .val (.int (3 : Int32)), .val (.long d), .second, .val (.long (p1 + d)), .second, .val (.long (p1 + ((10 : Int64) * d))), .second, .unset, .unset] [])) (fun t k => XS.ifYes X11.here hx rfl (pc0 := 85) (pc' := 98) rfl (hb hby at_85) rfl ((if0 _ _).trans (tlt ((lw_gt d (100000000 : Int64)).mpr hc10)).2.2.1) (by decide) (by decide) k) ?_
      refine own_via (T' := T11) (g' := (mkF m 99 #[.val (.long p1), .second, .val (.long p2), .second, .val (.int p3), .val (.int (3 : Int32)), .val (.long d), .second, .val (.long (p1 + d)), .second, .val (.long (p1 + ((10 : Int64) * d))), .second, .unset, .unset] [(.long p1)])) (fun t k => XS.lloadN X11.here hx rfl (hb hby at_98) rfl k) ?_
      refine own_via (T' := T11) (g' := (mkF m 102 #[.val (.long p1), .second, .val (.long p2), .second, .val (.int p3), .val (.int (3 : Int32)), .val (.long d), .second, .val (.long (p1 + d)), .second, .val (.long (p1 + ((10 : Int64) * d))), .second, .unset, .unset] [(.long (10 : Int64)), (.long p1)])) (fun t k => Stand.ldc2J (g := (mkF m 99 #[.val (.long p1), .second, .val (.long p2), .second, .val (.int p3), .val (.int (3 : Int32)), .val (.long d), .second, .val (.long (p1 + d)), .second, .val (.long (p1 + ((10 : Int64) * d))), .second, .unset, .unset] [(.long p1)])) X11 hx hown (mvT hZ (hw _ (List.mem_of_getElem? (i := 14) rfl))) rfl (hb hby at_99) k) ?_
      refine own_via (T' := T11) (g' := (mkF m 104 #[.val (.long p1), .second, .val (.long p2), .second, .val (.int p3), .val (.int (3 : Int32)), .val (.long d), .second, .val (.long (p1 + d)), .second, .val (.long (p1 + ((10 : Int64) * d))), .second, .unset, .unset] [(.long d), (.long (10 : Int64)), (.long p1)])) (fun t k => XS.lload X11.here hx rfl (hb hby at_102) rfl k) ?_
      refine own_via (T' := T11) (g' := (mkF m 105 #[.val (.long p1), .second, .val (.long p2), .second, .val (.int p3), .val (.int (3 : Int32)), .val (.long d), .second, .val (.long (p1 + d)), .second, .val (.long (p1 + ((10 : Int64) * d))), .second, .unset, .unset] [(.long ((10 : Int64) * d)), (.long p1)])) (fun t k => XS.lmul X11.here hx rfl (hb hby at_104) rfl k) ?_
      refine own_via (T' := T11) (g' := (mkF m 106 #[.val (.long p1), .second, .val (.long p2), .second, .val (.int p3), .val (.int (3 : Int32)), .val (.long d), .second, .val (.long (p1 + d)), .second, .val (.long (p1 + ((10 : Int64) * d))), .second, .unset, .unset] [(.long (p1 + ((10 : Int64) * d)))])) (fun t k => XS.ladd X11.here hx rfl (hb hby at_105) rfl k) ?_
      refine own_via (T' := T11) (g' := (mkF m 108 #[.val (.long p1), .second, .val (.long p2), .second, .val (.int p3), .val (.int (3 : Int32)), .val (.long d), .second, .val (.long (p1 + d)), .second, .val (.long (p1 + ((10 : Int64) * d))), .second, .val (.long (p1 + ((10 : Int64) * d))), .second] [])) (fun t k => XS.lstore X11.here hx rfl (hb hby at_106) rfl (l' := #[.val (.long p1), .second, .val (.long p2), .second, .val (.int p3), .val (.int (3 : Int32)), .val (.long d), .second, .val (.long (p1 + d)), .second, .val (.long (p1 + ((10 : Int64) * d))), .second, .val (.long (p1 + ((10 : Int64) * d))), .second]) rfl k) ?_
      refine own_via (T' := T11) (g' := (mkF m 110 #[.val (.long p1), .second, .val (.long p2), .second, .val (.int p3), .val (.int (3 : Int32)), .val (.long d), .second, .val (.long (p1 + d)), .second, .val (.long (p1 + ((10 : Int64) * d))), .second, .val (.long (p1 + ((10 : Int64) * d))), .second] [(.long (p1 + ((10 : Int64) * d)))])) (fun t k => XS.lload X11.here hx rfl (hb hby at_108) rfl k) ?_
      refine own_via (T' := T11) (g' := (mkF m 112 #[.val (.long p1), .second, .val (.long p2), .second, .val (.int p3), .val (.int (3 : Int32)), .val (.long d), .second, .val (.long (p1 + d)), .second, .val (.long (p1 + ((10 : Int64) * d))), .second, .val (.long (p1 + ((10 : Int64) * d))), .second] [(.long (p1 + ((10 : Int64) * d))), (.long (p1 + ((10 : Int64) * d)))])) (fun t k => XS.lload X11.here hx rfl (hb hby at_110) rfl k) ?_
      refine own_via (T' := T11) (g' := (mkF m 113 #[.val (.long p1), .second, .val (.long p2), .second, .val (.int p3), .val (.int (3 : Int32)), .val (.long d), .second, .val (.long (p1 + d)), .second, .val (.long (p1 + ((10 : Int64) * d))), .second, .val (.long (p1 + ((10 : Int64) * d))), .second] [(.int (lcmpW (p1 + ((10 : Int64) * d)) (p1 + ((10 : Int64) * d))))])) (fun t k => XS.lcmp X11.here hx rfl (hb hby at_112) rfl k) ?_
      refine own_via (T' := T11) (g' := (mkF m 116 #[.val (.long p1), .second, .val (.long p2), .second, .val (.int p3), .val (.int (3 : Int32)), .val (.long d), .second, .val (.long (p1 + d)), .second, .val (.long (p1 + ((10 : Int64) * d))), .second, .val (.long (p1 + ((10 : Int64) * d))), .second] [])) (fun t k => XS.ifNo X11.here hx rfl (hb hby at_113) rfl ((if0 _ _).trans (teq ((lw_eq (p1 + ((10 : Int64) * d)) (p1 + ((10 : Int64) * d))).mpr rfl)).2) k) ?_
      refine own_via (T' := T11) (g' := (mkF m 117 #[.val (.long p1), .second, .val (.long p2), .second, .val (.int p3), .val (.int (3 : Int32)), .val (.long d), .second, .val (.long (p1 + d)), .second, .val (.long (p1 + ((10 : Int64) * d))), .second, .val (.long (p1 + ((10 : Int64) * d))), .second] [(.int (1 : Int32))])) (fun t k => XS.iconst X11.here hx rfl (hb hby at_116) k) ?_
      refine own_via (T' := T11) (g' := (mkF m 121 #[.val (.long p1), .second, .val (.long p2), .second, .val (.int p3), .val (.int (3 : Int32)), .val (.long d), .second, .val (.long (p1 + d)), .second, .val (.long (p1 + ((10 : Int64) * d))), .second, .val (.long (p1 + ((10 : Int64) * d))), .second] [(.int (1 : Int32))])) (fun t k => XS.goto X11.here hx rfl (pc0 := 117) (pc' := 121) rfl (hb hby at_117) (by decide) (by decide) k) ?_
      exact own_ret (t := .boolean) X11 hx Bd.returns hlk rfl (Or.inl ⟨rfl, by simp, _, rfl⟩) (hb hby at_121) (by decide) (by decide) ⟨rfl, Fr.nil _⟩
    · obtain ⟨T12, X12, e12, st12⟩ := own_callS (W := 0) (r := (some (.long (p1 + (1000000000 : Int64))))) (y := (⟨"com/example/manoa/manoa/postgres/Claims", "fromStartDue", "(JJ)J"⟩ : MethodName)) X0 hx hZ hown (hw _ (List.mem_of_getElem? (i := 1) rfl)) (hw _ (List.mem_of_getElem? (i := 2) rfl)) (hw _ (List.mem_of_getElem? (i := 3) rfl)) (hw _ (List.mem_of_getElem? (i := 4) rfl)) (by decide) (own_due l Z a0 hw p1 (p1 + d) (p1 + (1000000000 : Int64)) h0 SP (by rw [own_law p1 d b1 b2]; simp [hc10])) e0 (by decide) (by decide) (by decide) (by decide) (g := (mkF m 74 #[.val (.long p1), .second, .val (.long p2), .second, .val (.int p3), .val (.int (3 : Int32)), .val (.long d), .second, .val (.long (p1 + d)), .second, .unset, .unset, .unset, .unset] [(.long (p1 + d)), (.long p1)])) rfl (by rw [hml]; rfl) (argsL := [(.long p1), (.long (p1 + d))]) (rest := []) (lenOf pd_8 rfl) rfl (by show 2 * 0 + _ ≤ _; exact Nat.le_of_eq rfl) (hb hby at_74) rfl
      refine own_via (T' := T12) (g' := (mkF m 77 #[.val (.long p1), .second, .val (.long p2), .second, .val (.int p3), .val (.int (3 : Int32)), .val (.long d), .second, .val (.long (p1 + d)), .second, .unset, .unset, .unset, .unset] [(.long (p1 + (1000000000 : Int64)))])) st12 ?_
      refine own_via (T' := T12) (g' := (mkF m 79 #[.val (.long p1), .second, .val (.long p2), .second, .val (.int p3), .val (.int (3 : Int32)), .val (.long d), .second, .val (.long (p1 + d)), .second, .val (.long (p1 + (1000000000 : Int64))), .second, .unset, .unset] [])) (fun t k => XS.lstore X12.here hx rfl (hb hby at_77) rfl (l' := #[.val (.long p1), .second, .val (.long p2), .second, .val (.int p3), .val (.int (3 : Int32)), .val (.long d), .second, .val (.long (p1 + d)), .second, .val (.long (p1 + (1000000000 : Int64))), .second, .unset, .unset]) rfl k) ?_
      refine own_via (T' := T12) (g' := (mkF m 81 #[.val (.long p1), .second, .val (.long p2), .second, .val (.int p3), .val (.int (3 : Int32)), .val (.long d), .second, .val (.long (p1 + d)), .second, .val (.long (p1 + (1000000000 : Int64))), .second, .unset, .unset] [(.long d)])) (fun t k => XS.lload X12.here hx rfl (hb hby at_79) rfl k) ?_
      refine own_via (T' := T12) (g' := (mkF m 84 #[.val (.long p1), .second, .val (.long p2), .second, .val (.int p3), .val (.int (3 : Int32)), .val (.long d), .second, .val (.long (p1 + d)), .second, .val (.long (p1 + (1000000000 : Int64))), .second, .unset, .unset] [(.long (100000000 : Int64)), (.long d)])) (fun t k => Stand.ldc2J (g := (mkF m 81 #[.val (.long p1), .second, .val (.long p2), .second, .val (.int p3), .val (.int (3 : Int32)), .val (.long d), .second, .val (.long (p1 + d)), .second, .val (.long (p1 + (1000000000 : Int64))), .second, .unset, .unset] [(.long d)])) X12 hx hown (mvT hZ (hw _ (List.mem_of_getElem? (i := 12) rfl))) rfl (hb hby at_81) k) ?_
      refine own_via (T' := T12) (g' := (mkF m 85 #[.val (.long p1), .second, .val (.long p2), .second, .val (.int p3), .val (.int (3 : Int32)), .val (.long d), .second, .val (.long (p1 + d)), .second, .val (.long (p1 + (1000000000 : Int64))), .second, .unset, .unset] [(.int (lcmpW d (100000000 : Int64)))])) (fun t k => XS.lcmp X12.here hx rfl (hb hby at_84) rfl k) ?_
      refine own_via (T' := T12) (g' := (mkF m 88 #[.val (.long p1), .second, .val (.long p2), .second, .val (.int p3), .val (.int (3 : Int32)), .val (.long d), .second, .val (.long (p1 + d)), .second, .val (.long (p1 + (1000000000 : Int64))), .second, .unset, .unset] [])) (fun t k => XS.ifNo X12.here hx rfl (hb hby at_85) rfl ((if0 _ _).trans (flt (fun q => hc10 ((lw_gt d (100000000 : Int64)).mp q))).2.2.1) k) ?_
      refine own_via (T' := T12) (g' := (mkF m 89 #[.val (.long p1), .second, .val (.long p2), .second, .val (.int p3), .val (.int (3 : Int32)), .val (.long d), .second, .val (.long (p1 + d)), .second, .val (.long (p1 + (1000000000 : Int64))), .second, .unset, .unset] [(.long p1)])) (fun t k => XS.lloadN X12.here hx rfl (hb hby at_88) rfl k) ?_
      refine own_via (T' := T12) (g' := (mkF m 92 #[.val (.long p1), .second, .val (.long p2), .second, .val (.int p3), .val (.int (3 : Int32)), .val (.long d), .second, .val (.long (p1 + d)), .second, .val (.long (p1 + (1000000000 : Int64))), .second, .unset, .unset] [(.long (1000000000 : Int64)), (.long p1)])) (fun t k => Stand.ldc2J (g := (mkF m 89 #[.val (.long p1), .second, .val (.long p2), .second, .val (.int p3), .val (.int (3 : Int32)), .val (.long d), .second, .val (.long (p1 + d)), .second, .val (.long (p1 + (1000000000 : Int64))), .second, .unset, .unset] [(.long p1)])) X12 hx hown (mvT hZ (hw _ (List.mem_of_getElem? (i := 13) rfl))) rfl (hb hby at_89) k) ?_
      refine own_via (T' := T12) (g' := (mkF m 93 #[.val (.long p1), .second, .val (.long p2), .second, .val (.int p3), .val (.int (3 : Int32)), .val (.long d), .second, .val (.long (p1 + d)), .second, .val (.long (p1 + (1000000000 : Int64))), .second, .unset, .unset] [(.long (p1 + (1000000000 : Int64)))])) (fun t k => XS.ladd X12.here hx rfl (hb hby at_92) rfl k) ?_
      refine own_via (T' := T12) (g' := (mkF m 95 #[.val (.long p1), .second, .val (.long p2), .second, .val (.int p3), .val (.int (3 : Int32)), .val (.long d), .second, .val (.long (p1 + d)), .second, .val (.long (p1 + (1000000000 : Int64))), .second, .val (.long (p1 + (1000000000 : Int64))), .second] [])) (fun t k => XS.lstore X12.here hx rfl (hb hby at_93) rfl (l' := #[.val (.long p1), .second, .val (.long p2), .second, .val (.int p3), .val (.int (3 : Int32)), .val (.long d), .second, .val (.long (p1 + d)), .second, .val (.long (p1 + (1000000000 : Int64))), .second, .val (.long (p1 + (1000000000 : Int64))), .second]) rfl k) ?_
      refine own_via (T' := T12) (g' := (mkF m 108 #[.val (.long p1), .second, .val (.long p2), .second, .val (.int p3), .val (.int (3 : Int32)), .val (.long d), .second, .val (.long (p1 + d)), .second, .val (.long (p1 + (1000000000 : Int64))), .second, .val (.long (p1 + (1000000000 : Int64))), .second] [])) (fun t k => XS.goto X12.here hx rfl (pc0 := 95) (pc' := 108) rfl (hb hby at_95) (by decide) (by decide) k) ?_
      refine own_via (T' := T12) (g' := (mkF m 110 #[.val (.long p1), .second, .val (.long p2), .second, .val (.int p3), .val (.int (3 : Int32)), .val (.long d), .second, .val (.long (p1 + d)), .second, .val (.long (p1 + (1000000000 : Int64))), .second, .val (.long (p1 + (1000000000 : Int64))), .second] [(.long (p1 + (1000000000 : Int64)))])) (fun t k => XS.lload X12.here hx rfl (hb hby at_108) rfl k) ?_
      refine own_via (T' := T12) (g' := (mkF m 112 #[.val (.long p1), .second, .val (.long p2), .second, .val (.int p3), .val (.int (3 : Int32)), .val (.long d), .second, .val (.long (p1 + d)), .second, .val (.long (p1 + (1000000000 : Int64))), .second, .val (.long (p1 + (1000000000 : Int64))), .second] [(.long (p1 + (1000000000 : Int64))), (.long (p1 + (1000000000 : Int64)))])) (fun t k => XS.lload X12.here hx rfl (hb hby at_110) rfl k) ?_
      refine own_via (T' := T12) (g' := (mkF m 113 #[.val (.long p1), .second, .val (.long p2), .second, .val (.int p3), .val (.int (3 : Int32)), .val (.long d), .second, .val (.long (p1 + d)), .second, .val (.long (p1 + (1000000000 : Int64))), .second, .val (.long (p1 + (1000000000 : Int64))), .second] [(.int (lcmpW (p1 + (1000000000 : Int64)) (p1 + (1000000000 : Int64))))])) (fun t k => XS.lcmp X12.here hx rfl (hb hby at_112) rfl k) ?_
      refine own_via (T' := T12) (g' := (mkF m 116 #[.val (.long p1), .second, .val (.long p2), .second, .val (.int p3), .val (.int (3 : Int32)), .val (.long d), .second, .val (.long (p1 + d)), .second, .val (.long (p1 + (1000000000 : Int64))), .second, .val (.long (p1 + (1000000000 : Int64))), .second] [])) (fun t k => XS.ifNo X12.here hx rfl (hb hby at_113) rfl ((if0 _ _).trans (teq ((lw_eq (p1 + (1000000000 : Int64)) (p1 + (1000000000 : Int64))).mpr rfl)).2) k) ?_
      refine own_via (T' := T12) (g' := (mkF m 117 #[.val (.long p1), .second, .val (.long p2), .second, .val (.int p3), .val (.int (3 : Int32)), .val (.long d), .second, .val (.long (p1 + d)), .second, .val (.long (p1 + (1000000000 : Int64))), .second, .val (.long (p1 + (1000000000 : Int64))), .second] [(.int (1 : Int32))])) (fun t k => XS.iconst X12.here hx rfl (hb hby at_116) k) ?_
      refine own_via (T' := T12) (g' := (mkF m 121 #[.val (.long p1), .second, .val (.long p2), .second, .val (.int p3), .val (.int (3 : Int32)), .val (.long d), .second, .val (.long (p1 + d)), .second, .val (.long (p1 + (1000000000 : Int64))), .second, .val (.long (p1 + (1000000000 : Int64))), .second] [(.int (1 : Int32))])) (fun t k => XS.goto X12.here hx rfl (pc0 := 117) (pc' := 121) rfl (hb hby at_117) (by decide) (by decide) k) ?_
      exact own_ret (t := .boolean) X12 hx Bd.returns hlk rfl (Or.inl ⟨rfl, by simp, _, rfl⟩) (hb hby at_121) (by decide) (by decide) ⟨rfl, Fr.nil _⟩
set_option maxRecDepth 65536 in
set_option maxHeartbeats 40000000 in
theorem comes_1 {Post : Tables → Env → Array Value → State → Outcome → State → Prop} (hpost : ∀ tb e args s v u, (limb_1_1.after args s (.returned v) u = true ∧ limb_1_2.after args s (.returned v) u = true ∧ True) → FrameEnd s (.returned v) u (Jvm.fieldLocs frame_1_writes args s ++ Jvm.arrayLocs frame_1_arrays args s ++ Jvm.staticLocs frame_1_statics s) 0 0 → Post tb e args s (.returned v) u) :
    ArmFor flags0 classFile x code maxLocals ret World_1 tables_1 room_1 Calls_1 rest_1 Pre_1 Post := by
  intro l hfl _ _ p e ha hc hk s m args below hf hA hF happ hP
  obtain ⟨hcalls, hrest, hpre⟩ := hP
  obtain ⟨-, -, -, hnamed, -, -, -, hat⟩ := (Spec.applies_iff hf).mp happ
  obtain ⟨hg, hn⟩ := and_e (Cond.before_iff.mp (show (Jvm.Cond.and given_1 narrow_1).before args s = true from hpre))
  obtain ⟨g1a, g1b⟩ := and_e hg
  obtain ⟨g2a, g2b⟩ := and_e g1b
  obtain ⟨g3a, g3b⟩ := and_e g2b
  obtain ⟨w0, w1, w2, rfl⟩ : ∃ w0 w1 w2 : Value, args = #[w0, w1, w2] := by
    have hs : args.size = 3 := by simpa [Cond.value, given_1] using g1a
    obtain ⟨L⟩ := args
    match L, hs with
    | [w0, w1, w2], _ => exact ⟨w0, w1, w2, rfl⟩
  have hw := fun d (hd : d ∈ tables_1) => atoms_spec (ws := Jvm.Cond.code x code maxLocals ret :: tables_1) hat d (List.mem_cons_of_mem _ hd)
  have hfit : Fit s := fun {y c} hc i hi => by
    obtain ⟨ha, rfl⟩ := Array.getElem?_eq_some_iff.mp hc
    have q := List.all_eq_true.mp ((Array.all_eq_true_iff_forall_mem.mp hF) _ (Array.getElem_mem ha)) i (List.mem_range.mpr hi)
    simpa [Array.getElem?_eq_getElem hi] using q
  obtain ⟨i0, ei0⟩ := isL_v g2a
  obtain rfl : w0 = (.long i0) := Option.some.inj ei0
  obtain ⟨i1, ei1⟩ := isL_v g3a
  obtain rfl : w1 = (.long i1) := Option.some.inj ei1
  obtain ⟨i2, ei2⟩ := is_v g3b
  obtain rfl : w2 = (.int i2) := Option.some.inj ei2
  have SP := Sta.start (own_evL hn) (Or.inr ⟨(hw _ (List.mem_of_getElem? (i := 3) rfl)), (hw _ (List.mem_of_getElem? (i := 6) rfl))⟩)
  obtain ⟨n, o, h1, h2, h3, _, L, rfl, hQ, hq⟩ := own_c0 l s _ hw i0 i1 i2 s.heap SP p e ha hc hk s m _ below hf ((Spec.applies_iff_loose hf).mp happ).1 ⟨rfl, State.Warmed39.refl s, rfl⟩ trivial
  obtain ⟨rfl, N⟩ := own_fin hQ
  refine ⟨n, _, h1, h2, h3, hpost _ _ _ _ _ _ ⟨Cond.after_iff.mpr rfl, Cond.after_iff.mpr (eq_i res_at (Term.int_eval (1)) rfl), trivial⟩ ⟨hq.1, hq.2.1, (hq.2.2.sift fun y hy => Or.inr (N y hy)).mono (by decide) (by decide)⟩⟩
theorem main_1_1 : Claimed_1_1 := comes_1 fun _ _ _ _ _ _ h hF => ⟨h.1, hF⟩
theorem main_1_2 : Claimed_1_2 := comes_1 fun _ _ _ _ _ _ h hF => ⟨h.2.1, hF⟩
end Jvm.Pilot.@@N@@
namespace Jvm.Pilot.@@N@@
open Jvm Jvm.ClassFile Sem Op Lib Jvm.Free Jvm.Stand Jvm.Pilot.@@N@@.Jvm.D
/-! MADE BY PROGRAM (witnessworld.py) out of the Statement's table words and the real class files: 10 classes; the members and pool entries that the words name. The judged class is class 1, her method 1. -/
namespace start1
open Jvm.ClassFile
def u (s : String) : CpInfo := .utf8 (stringToUtf16 s)
/-- a pool by its gaps: so many unusable entries, then the entry; so many at the end -/
def gap : Nat → List CpInfo → List CpInfo
  | 0, r => r
  | n + 1, r => .unusable :: gap n r
def poolList (es : List (Nat × CpInfo)) (last : Nat) : List CpInfo := es.foldr (fun e r => gap e.1 (e.2 :: r)) (gap last [])
def pool (es : List (Nat × CpInfo)) (last : Nat) : Array CpInfo := ⟨poolList es last⟩
def fileOf (pool : Array CpInfo) (this : Nat) (attrs : Array Attribute := #[]) (ms : Array MethodInfo := #[]) (fl : Nat := 33) (sup : Nat := 0) (ifs : Array Nat := #[]) (fds : Array FieldInfo := #[]) : ClassFile where
  minorVersion := 0
  majorVersion := 65
  constantPool := pool
  accessFlags := fl
  thisClass := this
  superClass := sup
  interfaces := ifs
  fields := fds
  methods := ms
  attributes := attrs
def plain (name : String) (sup : Option ClassId) : Class where
  name := name
  kind := .ordinary
  loader := none
  accessFlags := 33
  super := sup
  interfaces := #[]
  cf := none
  fields := #[]
  methods := #[]
  instanceTypes := #[]
  staticTypes := #[]
  resolved := #[]
  callSites := []
  init := .initialized
  statics := none
  mirror := none

def pool0 : Array CpInfo := pool [(5, u "<init>"), (0, u "()V"), (1, .class_ 10), (1, u "java/lang/Object")] 113

def k0m0 : Method := { name := "<init>", desc := "()V", sig := { parameters := [], returnType := none }, accessFlags := 1, code := none }
/-- java/lang/Object -/
def k0 : Class := { plain "java/lang/Object" none with
  accessFlags := 33
  interfaces := #[]
  cf := some (fileOf pool0 8 #[] #[{ accessFlags := 1, nameIndex := 5, descriptorIndex := 6, attributes := #[] }] 33 0 #[] #[])
  fields := #[]
  methods := #[k0m0]
  instanceTypes := #[]
  staticTypes := #[]
  resolved := Array.replicate 124 none
  statics := none }

def pool1 : Array CpInfo := pool [(2, .class_ 4), (1, u "java/lang/Object"), (0, u "<init>"), (0, u "()V"), (0, .long 576460752303423487), (1, .long 1073741823), (1, .long 99999996), (1, .long 7), (1, .methodref 16 17), (0, .class_ 18), (0, .nameAndType 19 20), (0, u "com/example/manoa/manoa/postgres/Claims"), (0, u "fromStartDue"), (0, u "(JJ)J"), (0, .long 100000000), (1, .long 1000000000), (1, .long 10), (1, .class_ 28), (0, u "com/example/manoa/manoa/postgres/ClaimsFromStartDuePinLaw"), (2, u "law"), (0, u "(JJI)Z")] 3

def k1m0 : Method := { name := "<init>", desc := "()V", sig := { parameters := [], returnType := none }, accessFlags := 2, code := none }
def k1c1 : Code := { maxStack := 6, maxLocals := 14, code := code, exceptionTable := #[], attributes := #[] }
def k1m1 : Method := { name := "law", desc := "(JJI)Z", sig := { parameters := [.long, .long, .int], returnType := some .boolean }, accessFlags := 9, code := some k1c1 }
/-- com/example/manoa/manoa/postgres/ClaimsFromStartDuePinLaw -/
def k1 : Class := { plain "com/example/manoa/manoa/postgres/ClaimsFromStartDuePinLaw" (some 0) with
  accessFlags := 49
  interfaces := #[]
  cf := some (fileOf pool1 27 #[] #[{ accessFlags := 2, nameIndex := 5, descriptorIndex := 6, attributes := #[] }, { accessFlags := 9, nameIndex := 31, descriptorIndex := 32, attributes := #[] }] 49 2 #[] #[])
  fields := #[]
  methods := #[k1m0, k1m1]
  instanceTypes := #[]
  staticTypes := #[]
  resolved := Array.replicate 36 none
  statics := none }

def pool2 : Array CpInfo := pool [(2, .class_ 4), (1, u "java/lang/Object"), (5, .class_ 12), (1, u "com/example/manoa/manoa/postgres/Claims"), (0, u "lineRead"), (0, u "J"), (2, u "queue"), (0, u "Ljava/lang/String;"), (2, u "lease"), (0, u "Ljava/time/Duration;"), (2, u "availableBy"), (0, u "Ljava/util/Optional;"), (2, u "until"), (0, u "Lcom/example/manoa/manoa/postgres/Claims$Until;"), (55, u "fromStartDue"), (2, u "place"), (0, u "Lcom/example/manoa/manoa/postgres/Place;"), (4, .fieldref 10 96), (0, .nameAndType 97 14), (0, u "FROM_START_PERIOD"), (8, u "jobsTaken"), (1, .class_ 110), (1, u "com/example/manoa/manoa/postgres/Claims$Until"), (25, .long 10), (1, .methodref 139 140), (0, .class_ 141), (0, .nameAndType 142 143), (0, u "java/lang/Math"), (0, u "max"), (0, u "(JJ)J"), (5, u "lineDone"), (0, u "Z"), (0, .class_ 152), (0, u "com/example/manoa/manoa/postgres/Claims$Look"), (12, u "FROM_START_SPACING"), (0, u "I")] 47

def k2c0 : Code := { maxStack := 10, maxLocals := 4, code := prog_49_method_9_code, exceptionTable := #[], attributes := #[] }
def k2m0 : Method := { name := "fromStartDue", desc := "(JJ)J", sig := { parameters := [.long, .long], returnType := some .long }, accessFlags := 8, code := some k2c0 }
/-- com/example/manoa/manoa/postgres/Claims -/
def k2 : Class := { plain "com/example/manoa/manoa/postgres/Claims" (some 0) with
  accessFlags := 48
  interfaces := #[]
  cf := some (fileOf pool2 10 #[.nestMembers #[151, 108]] #[{ accessFlags := 8, nameIndex := 86, descriptorIndex := 143, attributes := #[] }] 48 2 #[] #[{ accessFlags := 26, nameIndex := 97, descriptorIndex := 14, attributes := #[] }, { accessFlags := 26, nameIndex := 165, descriptorIndex := 166, attributes := #[] }, { accessFlags := 18, nameIndex := 17, descriptorIndex := 18, attributes := #[] }, { accessFlags := 18, nameIndex := 21, descriptorIndex := 22, attributes := #[] }, { accessFlags := 18, nameIndex := 25, descriptorIndex := 26, attributes := #[] }, { accessFlags := 18, nameIndex := 29, descriptorIndex := 30, attributes := #[] }, { accessFlags := 2, nameIndex := 89, descriptorIndex := 90, attributes := #[] }, { accessFlags := 2, nameIndex := 86, descriptorIndex := 14, attributes := #[] }, { accessFlags := 2, nameIndex := 106, descriptorIndex := 14, attributes := #[] }, { accessFlags := 2, nameIndex := 13, descriptorIndex := 14, attributes := #[] }, { accessFlags := 2, nameIndex := 149, descriptorIndex := 150, attributes := #[] }])
  fields := #[{ name := "FROM_START_PERIOD", type := .long, accessFlags := 26, slot := 0, constantValue := 0 }, { name := "FROM_START_SPACING", type := .int, accessFlags := 26, slot := 1, constantValue := 0 }, { name := "queue", type := (.object "java/lang/String"), accessFlags := 18, slot := 0, constantValue := 0 }, { name := "lease", type := (.object "java/time/Duration"), accessFlags := 18, slot := 1, constantValue := 0 }, { name := "availableBy", type := (.object "java/util/Optional"), accessFlags := 18, slot := 2, constantValue := 0 }, { name := "until", type := (.object "com/example/manoa/manoa/postgres/Claims$Until"), accessFlags := 18, slot := 3, constantValue := 0 }, { name := "place", type := (.object "com/example/manoa/manoa/postgres/Place"), accessFlags := 2, slot := 4, constantValue := 0 }, { name := "fromStartDue", type := .long, accessFlags := 2, slot := 5, constantValue := 0 }, { name := "jobsTaken", type := .long, accessFlags := 2, slot := 6, constantValue := 0 }, { name := "lineRead", type := .long, accessFlags := 2, slot := 7, constantValue := 0 }, { name := "lineDone", type := .boolean, accessFlags := 2, slot := 8, constantValue := 0 }]
  methods := #[k2m0]
  instanceTypes := #[(.object "java/lang/String"), (.object "java/time/Duration"), (.object "java/util/Optional"), (.object "com/example/manoa/manoa/postgres/Claims$Until"), (.object "com/example/manoa/manoa/postgres/Place"), .long, .long, .long, .boolean]
  staticTypes := #[.long, .int]
  resolved := Array.replicate 214 none
  statics := some 0 }

def pool3 : Array CpInfo := pool [(1, .class_ 2), (0, u "java/lang/Math"), (1, .class_ 6), (1, u "java/lang/Object"), (0, u "<init>"), (0, u "()V"), (89, .class_ 100), (1, u "java/lang/Math$RandomNumberGeneratorHolder"), (20, u "(JJ)J"), (50, u "negativeZeroFloatBits"), (0, u "J"), (2, u "negativeZeroDoubleBits"), (21, u "max"), (46, u "$assertionsDisabled"), (0, u "Z"), (91, u "twoToTheDoubleScaleDown"), (0, u "D"), (4, u "twoToTheDoubleScaleUp"), (9, u "E"), (3, u "PI"), (2, u "TAU"), (2, u "DEGREES_TO_RADIANS"), (0, u "RADIANS_TO_DEGREES")] 94

def k3m0 : Method := { name := "<init>", desc := "()V", sig := { parameters := [], returnType := none }, accessFlags := 2, code := none }
def k3c1 : Code := { maxStack := 4, maxLocals := 4, code := jdk_29_method_66_code, exceptionTable := #[], attributes := #[] }
def k3m1 : Method := { name := "max", desc := "(JJ)J", sig := { parameters := [.long, .long], returnType := some .long }, accessFlags := 9, code := some k3c1 }
/-- java/lang/Math -/
def k3 : Class := { plain "java/lang/Math" (some 0) with
  accessFlags := 49
  interfaces := #[]
  cf := some (fileOf pool3 1 #[.nestMembers #[98]] #[{ accessFlags := 2, nameIndex := 7, descriptorIndex := 8, attributes := #[] }, { accessFlags := 9, nameIndex := 198, descriptorIndex := 121, attributes := #[] }] 49 4 #[] #[{ accessFlags := 25, nameIndex := 354, descriptorIndex := 339, attributes := #[] }, { accessFlags := 25, nameIndex := 358, descriptorIndex := 339, attributes := #[] }, { accessFlags := 25, nameIndex := 361, descriptorIndex := 339, attributes := #[] }, { accessFlags := 26, nameIndex := 364, descriptorIndex := 339, attributes := #[] }, { accessFlags := 26, nameIndex := 365, descriptorIndex := 339, attributes := #[] }, { accessFlags := 26, nameIndex := 172, descriptorIndex := 173, attributes := #[] }, { accessFlags := 26, nameIndex := 176, descriptorIndex := 173, attributes := #[] }, { accessFlags := 8, nameIndex := 344, descriptorIndex := 339, attributes := #[] }, { accessFlags := 8, nameIndex := 338, descriptorIndex := 339, attributes := #[] }, { accessFlags := 4120, nameIndex := 245, descriptorIndex := 246, attributes := #[] }])
  fields := #[{ name := "E", type := .double, accessFlags := 25, slot := 0, constantValue := 0 }, { name := "PI", type := .double, accessFlags := 25, slot := 1, constantValue := 0 }, { name := "TAU", type := .double, accessFlags := 25, slot := 2, constantValue := 0 }, { name := "DEGREES_TO_RADIANS", type := .double, accessFlags := 26, slot := 3, constantValue := 0 }, { name := "RADIANS_TO_DEGREES", type := .double, accessFlags := 26, slot := 4, constantValue := 0 }, { name := "negativeZeroFloatBits", type := .long, accessFlags := 26, slot := 5, constantValue := 0 }, { name := "negativeZeroDoubleBits", type := .long, accessFlags := 26, slot := 6, constantValue := 0 }, { name := "twoToTheDoubleScaleUp", type := .double, accessFlags := 8, slot := 7, constantValue := 0 }, { name := "twoToTheDoubleScaleDown", type := .double, accessFlags := 8, slot := 8, constantValue := 0 }, { name := "$assertionsDisabled", type := .boolean, accessFlags := 4120, slot := 9, constantValue := 0 }]
  methods := #[k3m0, k3m1]
  instanceTypes := #[]
  staticTypes := #[.double, .double, .double, .double, .double, .long, .long, .double, .double, .boolean]
  resolved := Array.replicate 460 none
  statics := none }

def pool4 : Array CpInfo := pool [(1, u "java/lang/Cloneable"), (0, .class_ 1), (0, u "java/lang/Object"), (0, .class_ 3)] 3

/-- java/lang/Cloneable -/
def k4 : Class := { plain "java/lang/Cloneable" (some 0) with
  accessFlags := 1537
  interfaces := #[]
  cf := some (fileOf pool4 2 #[] #[] 1537 4 #[] #[])
  fields := #[]
  methods := #[]
  instanceTypes := #[]
  staticTypes := #[]
  resolved := Array.replicate 8 none
  statics := none }

def pool5 : Array CpInfo := pool [(1, u "java/io/Serializable"), (0, .class_ 1), (0, u "java/lang/Object"), (0, .class_ 3)] 3

/-- java/io/Serializable -/
def k5 : Class := { plain "java/io/Serializable" (some 0) with
  accessFlags := 1537
  interfaces := #[]
  cf := some (fileOf pool5 2 #[] #[] 1537 4 #[] #[])
  fields := #[]
  methods := #[]
  instanceTypes := #[]
  staticTypes := #[]
  resolved := Array.replicate 8 none
  statics := none }

/-- the primitive byte -/
def k6 : Class := { plain "byte" none with kind := .primitive 'B', accessFlags := 0x411 }
/-- [B -/
def k7 : Class := { plain "[B" (some 0) with kind := .array 6 .byte, interfaces := #[4, 5], accessFlags := 1041 }

/-- the primitive int -/
def k8 : Class := { plain "int" none with kind := .primitive 'I', accessFlags := 0x411 }
/-- [I -/
def k9 : Class := { plain "[I" (some 0) with kind := .array 8 .int, interfaces := #[4, 5], accessFlags := 1041 }

def heap : Heap := #[{ cls := 2, slots := #[.long 1000000000, .int 0], vm := .statics 2 }]
def classes : Array Class := #[k0, k1, k2, k3, k4, k5, k6, k7, k8, k9]
def interned : List (Array UInt16 × Addr) := []
def slotsUsed : Nat := 2
def theMethod : MethodId := ⟨1, 1⟩
def args0 : Array Value := #[.long 5, .long 7, .int 0]
def aboutOver (below : List Frame) : State where
  vm := { classes := classes, interned := interned.toArray }
  heap := heap
  slotsUsed := slotsUsed
  threads := #[{ frames := .invoking theMethod args0 :: below }]
def below0 : List Frame := [.native { method := ⟨0, 0⟩, args := #[] }]
def about1 : State := aboutOver below0
def p0 : Program := .bare "" "" ""
def e0 : Env := launch0.env 0 0 0
theorem w_frames : about1.frames = Frame.invoking theMethod args0 :: below0 := rfl
set_option maxRecDepth 65536 in
theorem w_args : argsFit about1.vm theMethod args0 = true := by decide +kernel
set_option maxRecDepth 65536 in
theorem w_heap : heapFits about1 = true := by decide +kernel
set_option maxRecDepth 65536 in
theorem w_runnable : about1.curStatus? = some .runnable := by decide +kernel
set_option maxRecDepth 65536 in
theorem w_alone : about1.alone = true := by decide +kernel
set_option maxRecDepth 65536 in
theorem w_named : about1.methodNamed? x = some theMethod := by decide +kernel
set_option maxRecDepth 65536 in
theorem w_hears : about1.hears theMethod below0 = true := by decide +kernel
set_option maxRecDepth 65536 in
theorem w_ripe : about1.ripe theMethod args0 below0 = true := by decide +kernel
theorem w_running : about1.status = .running := rfl
set_option maxRecDepth 65536 in
theorem w_room : about1.hasRoom e0.platform room_1 = true :=
  launch0.hasRoom_least _ room_1 (by decide +kernel) (by decide +kernel) (by decide +kernel) (by decide +kernel) (by decide +kernel) (by decide +kernel)
theorem allAtoms_all (ts : List Jvm.Cond) (a : Array Jvm.Value) (st : Jvm.State) : (allAtoms ts).before a st = ts.all (fun c => c.before a st) := by
  induction ts with
  | nil => rfl
  | cons c t ih =>
    show (Jvm.Cond.and c (allAtoms t)).before a st = _
    rw [Jvm.Cond.before_and, ih, List.all_cons]
def words1 : List Jvm.Cond := Jvm.Cond.code x code maxLocals ret :: tables_1
/-- a 'code' word, met by the world's own term for the bytes: nothing is compared byte by byte -/
theorem code_word {y : MethodName} {bytes : ByteArray} {mx : Nat} {rt : Option FieldType} {a : Array Value} {s : State} {m : MethodId} {meth : Method} {c : Code} (h1 : s.methodNamed? y = some m) (h2 : s.vm.method? m = some meth) (h3 : meth.code = some c) (h4 : c.code = bytes)
    (h5 : (c.maxLocals == mx && c.exceptionTable.isEmpty && decide (c.maxStack ≤ mostOperands) && decide (meth.sig.returnType = rt) && !meth.locks && decide (parseMethodDescriptor y.desc = some meth.sig)) = true) : (Jvm.Cond.code y bytes mx rt).before a s = true := by
  simp only [Bool.and_eq_true, beq_iff_eq, Bool.not_eq_true', decide_eq_true_eq] at h5
  obtain ⟨⟨⟨⟨⟨g1, g2⟩, g3⟩, g4⟩, g5⟩, g6⟩ := h5
  simp [Cond.before, Cond.holds, Cond.value, h1, h2, h3, h4, g1, g2, g3, g4, g5, g6]
def isCode : Jvm.Cond → Bool
  | .code _ _ _ _ => true
  | _ => false
theorem all_split {L : List Jvm.Cond} {P : Jvm.Cond → Bool} (h1 : L.all (fun c => isCode c || P c) = true) (h2 : ∀ c ∈ L.filter isCode, P c = true) : L.all P = true := by
  refine List.all_eq_true.mpr fun c hc => ?_
  have h := List.all_eq_true.mp h1 c hc
  rcases Bool.eq_false_or_eq_true (isCode c) with hi | hi
  · exact h2 c (List.mem_filter.mpr ⟨hc, hi⟩)
  · simpa [hi] using h
set_option maxRecDepth 65536 in
theorem w_c0 : (Jvm.Cond.code x code maxLocals ret).before args0 about1 = true := code_word (m := ⟨1, 1⟩) (meth := k1m1) (c := k1c1) (by decide +kernel) rfl rfl rfl (by decide +kernel)
set_option maxRecDepth 65536 in
theorem w_c1 : (Jvm.Cond.code ({ cls := "com/example/manoa/manoa/postgres/Claims", name := "fromStartDue", desc := "(JJ)J" } : Jvm.MethodName) prog_49_method_9_code (4 : Nat) (Option.some Jvm.ClassFile.FieldType.long)).before args0 about1 = true := code_word (m := ⟨2, 0⟩) (meth := k2m0) (c := k2c0) (by decide +kernel) rfl rfl rfl (by decide +kernel)
set_option maxRecDepth 65536 in
theorem w_c2 : (Jvm.Cond.code ({ cls := "java/lang/Math", name := "max", desc := "(JJ)J" } : Jvm.MethodName) jdk_29_method_66_code (4 : Nat) (Option.some Jvm.ClassFile.FieldType.long)).before args0 about1 = true := code_word (m := ⟨3, 1⟩) (meth := k3m1) (c := k3c1) (by decide +kernel) rfl rfl rfl (by decide +kernel)
def codes1 : List Jvm.Cond := [Jvm.Cond.code x code maxLocals ret, Jvm.Cond.code ({ cls := "com/example/manoa/manoa/postgres/Claims", name := "fromStartDue", desc := "(JJ)J" } : Jvm.MethodName) prog_49_method_9_code (4 : Nat) (Option.some Jvm.ClassFile.FieldType.long), Jvm.Cond.code ({ cls := "java/lang/Math", name := "max", desc := "(JJ)J" } : Jvm.MethodName) jdk_29_method_66_code (4 : Nat) (Option.some Jvm.ClassFile.FieldType.long)]
set_option maxRecDepth 65536 in
theorem codes_eq : words1.filter isCode = codes1 := rfl
theorem w_codes : ∀ c ∈ words1.filter isCode, c.before args0 about1 = true := by
  rw [codes_eq]
  intro c hc
  simp only [codes1, List.mem_cons, List.not_mem_nil, or_false] at hc
  rcases hc with rfl | rfl | rfl
  · exact w_c0
  · exact w_c1
  · exact w_c2
set_option maxRecDepth 65536 in
theorem w_t1 : words1.all (fun c => isCode c || c.before args0 about1) = true := by decide +kernel
theorem w_tables : (allAtoms (Jvm.Cond.code x code maxLocals ret :: tables_1)).before args0 about1 = true := by
  rw [allAtoms_all]
  show words1.all (fun c => c.before args0 about1) = true
  refine all_split ?_ w_codes
  rw [w_t1]
set_option maxRecDepth 65536 in
theorem w_case : (Jvm.Cond.and given_1 narrow_1).before args0 about1 = true := by decide +kernel
theorem w_applies : (headSpec (Jvm.Cond.code x code maxLocals ret :: tables_1) room_1).applies x e0.platform about1 = true :=
  (Spec.applies_iff w_frames).mpr ⟨w_running, w_runnable, w_alone, w_named, w_hears, w_ripe, w_room, w_tables⟩
theorem atStart : AtStart classFile x code maxLocals ret World_1 tables_1 room_1 Calls_1 rest_1 Pre_1 launch0 p0 e0 about1 theMethod args0 below0 :=
  ⟨lists_1, trivial, launch0.admits_env _ _ _, launch0.least_env, fairChoices_fair.cas, fairChoices_fair.clock, w_frames, w_args, w_heap, w_applies, trivial, trivial, w_case⟩
end start1
theorem witness_1 : WitnessClaimed_1 := ⟨start1.p0, start1.e0, start1.about1, start1.theMethod, start1.args0, start1.below0, start1.atStart⟩
end Jvm.Pilot.@@N@@
