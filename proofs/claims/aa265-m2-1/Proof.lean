import JvmDerived
import JvmDerived.Pilot.@@N@@Statement
import JvmDerived.Pilot.@@N@@Code
set_option linter.unusedVariables false
set_option linter.unusedSimpArgs false
namespace Jvm.RoadKit
open Sem ClassFile Op Lib Jvm.Stand Jvm.Free Jvm.LawKit
section Own
variable {p : Program} {l : Launch} {e : Env} {R : Room} {s : State} {m : MethodId} {args : Array Value} {below : List Frame} {meth : Method} {c : Code} {T : State} {locs : List Loc} {cells slots : Nat} {Z : State} {a0 : Array Value} {h : Heap}
/-- the run goes on from the frame g over T to an end that P says -/
def own_Go (p : Program) (e : Env) (below : List Frame) (P : Outcome → State → Prop) (T : State) (g : JFrame) : Prop :=
  ∃ s₂ o, Steps p.tables e below (T.setTop g) s₂ ∧ s₂.status = .running ∧ Ended s₂ below o ∧ P o s₂
theorem own_via {P : Outcome → State → Prop} {T' : State} {g g' : JFrame} (k : ∀ target, Steps p.tables e below (T'.setTop g') target → Steps p.tables e below (T.setTop g) target) (q : own_Go p e below P T' g') : own_Go p e below P T g := by
  obtain ⟨s2, o, h1, h2⟩ := q
  exact ⟨s2, o, k _ h1, h2⟩
theorem own_start {P : Outcome → State → Prop} {g g' : JFrame} (q : g = g') (k : own_Go p e below P T g') : own_Go p e below P T g := q ▸ k
/-- what a body owes at its end -/
abbrev own_End (s : State) (Q : Option Value → Heap → List Loc → Prop) (k n : Nat) : Outcome → State → Prop := fun o U' => ∃ v L, o = .returned v ∧ Q v U'.heap L ∧ FrameEnd s o U' L k n
theorem own_ret {Q : Option Value → Heap → List Loc → Prop} {k n : Nat} {pc : Nat} {Ls : Array Slot} {w : Value} {t : FieldType} {i : Instr} {rest : List Value} (X : Stand p l e R s m args below meth c T locs cells slots) (hx : p.tables.exec = Jvm.exec) (hret : meth.sig.returnType = some t) (hlk : meth.locks = false) (hn : narrow t w = w)
    (hi : (i = .ireturn ∧ (t = .int ∨ t = .boolean ∨ t = .byte ∨ t = .char ∨ t = .short) ∧ ∃ z, w = .int z) ∨ (i = .lreturn ∧ t = .long ∧ ∃ z, w = .long z) ∨ (i = .dreturn ∧ t = .double ∧ ∃ z, w = .double z) ∨ (i = .freturn ∧ t = .float ∧ ∃ z, w = .float z) ∨ (i = .areturn ∧ t.isReference = true ∧ w.isRef = true))
    (hd : decode c.code pc = .ok (i, 1)) (hk : cells ≤ k) (hs : slots ≤ n) (hQ : Q (some w) T.heap locs) : own_Go p e below (own_End s Q k n) T (mkF m pc Ls (w :: rest)) := by
  obtain ⟨fs, hr, hrun, hended, hW, hsame⟩ := X.leave (v := some w) (fun q => by rw [hret] at q; cases q) hlk
  exact ⟨_, _, retOut X hx hret hn hi hd hr, hrun, hended, _, _, rfl, hQ, ⟨_, rfl⟩, hW, hsame.mono hk hs⟩
theorem own_retV {Q : Option Value → Heap → List Loc → Prop} {k n : Nat} {pc : Nat} {Ls : Array Slot} (X : Stand p l e R s m args below meth c T locs cells slots) (hx : p.tables.exec = Jvm.exec) (hret : meth.sig.returnType = none) (hlk : meth.locks = false)
    (hd : decode c.code pc = .ok (.return_, 1)) (hk : cells ≤ k) (hs : slots ≤ n) (hQ : Q none T.heap locs) : own_Go p e below (own_End s Q k n) T (mkF m pc Ls []) := by
  obtain ⟨fs, hr, hrun, hended, hW, hsame⟩ := X.leave (v := none) (fun _ => rfl) hlk
  exact ⟨_, _, X.returnOut hx hret hd hr, hrun, hended, _, _, rfl, hQ, ⟨_, rfl⟩, hW, hsame.mono hk hs⟩
/-- a callee that leaves the heap as it was -/
def own_Q (r : Option Value) (h0 : Heap) (v : Option Value) (h : Heap) (L : List Loc) : Prop := v = r ∧ L = [] ∧ h = h0
def own_F (r : Option Value) (n0 : Nat) (v : Option Value) (h : Heap) (L : List Loc) : Prop := v = r ∧ Fr n0 L
theorem own_fin {r v : Option Value} {n0 : Nat} {h : Heap} {L : List Loc} (q : own_F r n0 v h L) : v = r ∧ Fr n0 L := q
abbrev own_Met (l : Launch) (Z : State) (y : MethodName) (ws : List Cond) (rm : Room) (as' : Array Value) (h0 : Heap) (Q : Option Value → Heap → List Loc → Prop) : Prop :=
  MetFree l y (head1 ws rm) (fun a U => a = as' ∧ Z.Warmed39 U.vm ∧ U.heap = h0) (fun _ _ _ _ _ => True) (fun _ U o U' => ∃ v L, o = .returned v ∧ Q v U'.heap L ∧ FrameEnd U o U' L rm.cells rm.slots)
theorem own_callV {own C : String} {index : Nat} {y z : MethodName} {bytes : ByteArray} {maxL : Nat} {ret : Option FieldType} {rm : Room} {as' : Array Value} {r : Option Value} {W : Nat} {b : Addr}
    (X : Stand p l e R s m args below meth c T locs cells slots) (hx : p.tables.exec = Jvm.exec) (hZ : Z.Warmed39 s.vm) (hown : s.vm.findClass own = some m.cls)
    (wl : (Cond.methodLink own index y).before a0 Z = true) (wd : (Cond.declares y).before a0 Z = true) (nf : NotFace s y) (ws : (Cond.selects C y z).before a0 Z = true) (wi : (Cond.instanceMethod z).before a0 Z = true) (hy : y.cls ≠ "java/lang/invoke/MethodHandle" ∧ y.cls ≠ "java/lang/invoke/VarHandle")
    (wc : (Cond.code z bytes maxL ret).before a0 Z = true) (wz : (Cond.initialized z.cls).before a0 Z = true) (hM : own_Met l Z z [Cond.code z bytes maxL ret] rm as' h (own_Q r h)) (eT : T.heap = h) (E : Exa Z h b C)
    (hf : rm.frames + 1 ≤ R.frames) (hl : W + (maxL + 11) + rm.locals ≤ R.locals) (hc : cells + rm.cells ≤ R.cells) (hs : slots + rm.slots ≤ R.slots)
    {g : JFrame} (hg : g.method = m) (hsize : g.locals.size = c.maxLocals) {argsL rest : List Value} (hlen : ∀ sig, parseMethodDescriptor y.desc = some sig → argsL.length = sig.parameters.length) (hstack : g.stack = argsL.reverse ++ .ref b :: rest)
    (hW : 2 * g.monitorRoom + (rest.map fun v => v.category).sum ≤ W) (hdg : decode c.code g.pc = .ok (.invokevirtual index, 3)) (hargs : (.ref b :: argsL).toArray = as') :
    ∃ T', Stand p l e R s m args below meth c T' locs (cells + rm.cells) (slots + rm.slots) ∧ T'.heap = h ∧ ∀ target, Steps p.tables e below (T'.setTop { g with pc := g.pc + 3, stack := r.toList ++ rest }) target → Steps p.tables e below (T.setTop g) target := by
  obtain ⟨cB, kB, q1, q2, q3⟩ := isOf hZ eT E
  obtain ⟨_, _, ⟨T', L', k', n'⟩, -, X', ⟨Lc, hQ, hl', hk', hn'⟩, st⟩ := X.virtualBack hx (y := y) (z := z) hown (mvT hZ wl) (mvT hZ wd) nf (mvT hZ ws) (mvT hZ wi) hy (backOf (W := W) hM hZ wc wz hf hl) q1 q3 hg hsize (Steps.refl _) hlen hstack hW hdg (fun _ _ => ⟨hargs, eT, hc, hs⟩)
  dsimp only [Pt.U, Pt.locs, Pt.cells, Pt.slots] at X' hl' hk' hn' st hQ
  subst hl' hk' hn'
  obtain ⟨rfl, rfl, e'⟩ := hQ
  rw [List.append_nil] at X'
  exact ⟨T', X', e', fun target k => st.trans k⟩
theorem own_callU {own C owner : String} {index : Nat} {y z : MethodName} {bytes : ByteArray} {maxL : Nat} {ret : Option FieldType} {rm : Room} {as' : Array Value} {r : Option Value} {W : Nat} {b : Addr}
    (X : Stand p l e R s m args below meth c T locs cells slots) (hx : p.tables.exec = Jvm.exec) (hZ : Z.Warmed39 s.vm) (hown : s.vm.findClass own = some m.cls)
    (wl : (Cond.methodLink own index y).before a0 Z = true) (wm : (Cond.sameMethod y.cls owner y.name y.desc).before a0 Z = true) (wd : (Cond.declares ⟨owner, y.name, y.desc⟩).before a0 Z = true) (ho : owner ≠ "java/lang/invoke/MethodHandle" ∧ owner ≠ "java/lang/invoke/VarHandle") (ws : (Cond.selects C y z).before a0 Z = true) (wi : (Cond.instanceMethod z).before a0 Z = true)
    (wc : (Cond.code z bytes maxL ret).before a0 Z = true) (wz : (Cond.initialized z.cls).before a0 Z = true) (hM : own_Met l Z z [Cond.code z bytes maxL ret] rm as' h (own_Q r h)) (eT : T.heap = h) (E : Exa Z h b C)
    (hf : rm.frames + 1 ≤ R.frames) (hl : W + (maxL + 11) + rm.locals ≤ R.locals) (hc : cells + rm.cells ≤ R.cells) (hs : slots + rm.slots ≤ R.slots)
    {g : JFrame} (hg : g.method = m) (hsize : g.locals.size = c.maxLocals) {argsL rest : List Value} (hlen : ∀ sig, parseMethodDescriptor y.desc = some sig → argsL.length = sig.parameters.length) (hstack : g.stack = argsL.reverse ++ .ref b :: rest)
    (hW : 2 * g.monitorRoom + (rest.map fun v => v.category).sum ≤ W) (hdg : decode c.code g.pc = .ok (.invokevirtual index, 3)) (hargs : (.ref b :: argsL).toArray = as') :
    ∃ T', Stand p l e R s m args below meth c T' locs (cells + rm.cells) (slots + rm.slots) ∧ T'.heap = h ∧ ∀ target, Steps p.tables e below (T'.setTop { g with pc := g.pc + 3, stack := r.toList ++ rest }) target → Steps p.tables e below (T.setTop g) target := by
  obtain ⟨cB, kB, q1, q2, q3⟩ := isOf hZ eT E
  obtain ⟨_, _, ⟨T', L', k', n'⟩, -, X', ⟨Lc, hQ, hl', hk', hn'⟩, st⟩ := X.virtualBackUp hx (x := y) (y := z) (owner := owner) hown (mvT hZ wl) (mvT hZ wm) (mvT hZ wd) ho (mvT hZ ws) (mvT hZ wi) (backOf (W := W) hM hZ wc wz hf hl) q1 q3 hg hsize (Steps.refl _) hlen hstack hW hdg (fun _ _ => ⟨hargs, eT, hc, hs⟩)
  dsimp only [Pt.U, Pt.locs, Pt.cells, Pt.slots] at X' hl' hk' hn' st hQ
  subst hl' hk' hn'
  obtain ⟨rfl, rfl, e'⟩ := hQ
  rw [List.append_nil] at X'
  exact ⟨T', X', e', fun target k => st.trans k⟩
theorem own_callS {own : String} {index : Nat} {y : MethodName} {bytes : ByteArray} {maxL : Nat} {ret : Option FieldType} {rm : Room} {as' : Array Value} {r : Option Value} {W : Nat}
    (X : Stand p l e R s m args below meth c T locs cells slots) (hx : p.tables.exec = Jvm.exec) (hZ : Z.Warmed39 s.vm) (hown : s.vm.findClass own = some m.cls)
    (wl : (Cond.methodLink own index y).before a0 Z = true) (wt : (Cond.static y).before a0 Z = true) (wz : (Cond.initialized y.cls).before a0 Z = true) (wc : (Cond.code y bytes maxL ret).before a0 Z = true) (hy : y.cls ≠ "java/lang/invoke/MethodHandle" ∧ y.cls ≠ "java/lang/invoke/VarHandle")
    (hM : own_Met l Z y [Cond.code y bytes maxL ret] rm as' h (own_Q r h)) (eT : T.heap = h)
    (hf : rm.frames + 1 ≤ R.frames) (hl : W + (maxL + 11) + rm.locals ≤ R.locals) (hc : cells + rm.cells ≤ R.cells) (hs : slots + rm.slots ≤ R.slots)
    {g : JFrame} (hg : g.method = m) (hsize : g.locals.size = c.maxLocals) {argsL rest : List Value} (hlen : ∀ sig, parseMethodDescriptor y.desc = some sig → argsL.length = sig.parameters.length) (hstack : g.stack = argsL.reverse ++ rest)
    (hW : 2 * g.monitorRoom + (rest.map fun v => v.category).sum ≤ W) (hdg : decode c.code g.pc = .ok (.invokestatic index, 3)) (hargs : argsL.toArray = as') :
    ∃ T', Stand p l e R s m args below meth c T' locs (cells + rm.cells) (slots + rm.slots) ∧ T'.heap = h ∧ ∀ target, Steps p.tables e below (T'.setTop { g with pc := g.pc + 3, stack := r.toList ++ rest }) target → Steps p.tables e below (T.setTop g) target := by
  obtain ⟨_, _, ⟨T', L', k', n'⟩, -, X', ⟨Lc, hQ, hl', hk', hn'⟩, st⟩ := Jvm.LawKit.callS X hx (y := y) hown (mvT hZ wl) (mvT hZ wt) (mvT hZ wz) (mvT hZ wc) hy (backOf (W := W) hM hZ wc wz hf hl) hg hsize hlen hstack hW hdg (fun _ _ => ⟨hargs, eT, hc, hs⟩)
  dsimp only [Pt.U, Pt.locs, Pt.cells, Pt.slots] at X' hl' hk' hn' st hQ
  subst hl' hk' hn'
  obtain ⟨rfl, rfl, e'⟩ := hQ
  rw [List.append_nil] at X'
  exact ⟨T', X', e', st⟩
theorem own_evI {t : Term} {k : Int32} (q : (Cond.eq t (.int k)).value args Z none Z [] = some true) : t.eval args Z none [] Z = some (.int k) := eqv_i rfl q
theorem own_evL {t : Term} {k : Int64} (q : (Cond.eq t (.long k)).value args Z none Z [] = some true) : t.eval args Z none [] Z = some (.long k) := eqv_l rfl q
theorem own_fld {t : Term} {k : Int32} {a : Addr} {C n d : String} (q : (Cond.eq (.field t C n d) (.int k)).value args Z none Z [] = some true) (ht : t.eval args Z none [] Z = some (.ref a)) : Fld Z Z.heap a C n d (.int k) := Fld.start ((fld_at ht).symm.trans (own_evI q))
theorem own_staK {h' : Heap} {C n d : String} {v : Value} (F : Sta Z h C n d v) (K : Keep h h' []) : Sta Z h' C n d v := by
  obtain ⟨cf, i, k, f, st, cell, h1, h2, h3, h4, h5, r⟩ := F
  exact ⟨cf, i, k, f, st, cell, h1, h2, h3, h4, K.2.1 _ _ h5 nin0, r⟩
theorem own_arrK {h' : Heap} {a : Addr} {cl : Cell} {ty : FieldType} (F : Arr Z h a cl ty) (K : Keep h h' []) : Arr Z h' a cl ty := ⟨K.2.1 _ _ F.1 nin0, F.2⟩
/-- a static call by a contract of any kind -/
theorem own_callSQ {own : String} {index : Nat} {y : MethodName} {bytes : ByteArray} {maxL : Nat} {ret : Option FieldType} {rm : Room} {as' : Array Value} {Q : Option Value → Heap → List Loc → Prop} {W : Nat}
    (X : Stand p l e R s m args below meth c T locs cells slots) (hx : p.tables.exec = Jvm.exec) (hZ : Z.Warmed39 s.vm) (hown : s.vm.findClass own = some m.cls)
    (wl : (Cond.methodLink own index y).before a0 Z = true) (wt : (Cond.static y).before a0 Z = true) (wz : (Cond.initialized y.cls).before a0 Z = true) (wc : (Cond.code y bytes maxL ret).before a0 Z = true) (hy : y.cls ≠ "java/lang/invoke/MethodHandle" ∧ y.cls ≠ "java/lang/invoke/VarHandle")
    (hM : own_Met l Z y [Cond.code y bytes maxL ret] rm as' h Q) (eT : T.heap = h)
    (hf : rm.frames + 1 ≤ R.frames) (hl : W + (maxL + 11) + rm.locals ≤ R.locals) (hc : cells + rm.cells ≤ R.cells) (hs : slots + rm.slots ≤ R.slots)
    {g : JFrame} (hg : g.method = m) (hsize : g.locals.size = c.maxLocals) {argsL rest : List Value} (hlen : ∀ sig, parseMethodDescriptor y.desc = some sig → argsL.length = sig.parameters.length) (hstack : g.stack = argsL.reverse ++ rest)
    (hW : 2 * g.monitorRoom + (rest.map fun v => v.category).sum ≤ W) (hdg : decode c.code g.pc = .ok (.invokestatic index, 3)) (hargs : argsL.toArray = as') :
    ∃ v T' Lc, Stand p l e R s m args below meth c T' (locs ++ Lc) (cells + rm.cells) (slots + rm.slots) ∧ Q v T'.heap Lc ∧ ∀ target, Steps p.tables e below (T'.setTop { g with pc := g.pc + 3, stack := v.toList ++ rest }) target → Steps p.tables e below (T.setTop g) target := by
  obtain ⟨v, _, ⟨T', L', k', n'⟩, -, X', ⟨Lc, hQ, hl', hk', hn'⟩, st⟩ := Jvm.LawKit.callS X hx (y := y) hown (mvT hZ wl) (mvT hZ wt) (mvT hZ wz) (mvT hZ wc) hy (backOf (W := W) hM hZ wc wz hf hl) hg hsize hlen hstack hW hdg (fun _ _ => ⟨hargs, eT, hc, hs⟩)
  dsimp only [Pt.U, Pt.locs, Pt.cells, Pt.slots] at X' hl' hk' hn' st hQ
  subst hl' hk' hn'
  exact ⟨v, T', Lc, X', hQ, st⟩
/-- a constructor's call by a contract of any kind -/
theorem own_callIQ {own : String} {index : Nat} {y : MethodName} {bytes : ByteArray} {maxL : Nat} {rm : Room} {as' : Array Value} {Q : Option Value → Heap → List Loc → Prop} {W : Nat} {b : Addr}
    (X : Stand p l e R s m args below meth c T locs cells slots) (hx : p.tables.exec = Jvm.exec) (hZ : Z.Warmed39 s.vm) (hy1 : y.name = "<init>") (hown : s.vm.findClass own = some m.cls)
    (wl : (Cond.methodLink own index y).before a0 Z = true) (wi : (Cond.instanceMethod y).before a0 Z = true) (wz : (Cond.initialized y.cls).before a0 Z = true) (wc : (Cond.code y bytes maxL none).before a0 Z = true) (hy : y.cls ≠ "java/lang/invoke/MethodHandle" ∧ y.cls ≠ "java/lang/invoke/VarHandle")
    (hM : own_Met l Z y [Cond.code y bytes maxL none] rm as' h Q) (eT : T.heap = h)
    (hf : rm.frames + 1 ≤ R.frames) (hl : W + (maxL + 11) + rm.locals ≤ R.locals) (hc : cells + rm.cells ≤ R.cells) (hs : slots + rm.slots ≤ R.slots)
    {g : JFrame} (hg : g.method = m) (hsize : g.locals.size = c.maxLocals) {argsL rest : List Value} (hlen : ∀ sig, parseMethodDescriptor y.desc = some sig → argsL.length = sig.parameters.length) (hstack : g.stack = argsL.reverse ++ .ref b :: rest)
    (hW : 2 * g.monitorRoom + (rest.map fun v => v.category).sum ≤ W) (hdg : decode c.code g.pc = .ok (.invokespecial index, 3)) (hargs : (.ref b :: argsL).toArray = as') :
    ∃ v T' Lc, Stand p l e R s m args below meth c T' (locs ++ Lc) (cells + rm.cells) (slots + rm.slots) ∧ Q v T'.heap Lc ∧ ∀ target, Steps p.tables e below (T'.setTop { g with pc := g.pc + 3, stack := v.toList ++ rest }) target → Steps p.tables e below (T.setTop g) target := by
  obtain ⟨v, _, ⟨T', L', k', n'⟩, -, X', ⟨Lc, hQ, hl', hk', hn'⟩, st⟩ := X.specialBack hx (y := y) hy1 hown (mvT hZ wl) (mvT hZ wi) (mvT hZ wc) hy (backOf (W := W) hM hZ wc wz hf hl) hg hsize (Steps.refl _) (a := b) hlen hstack hW hdg (fun _ _ => ⟨hargs, eT, hc, hs⟩)
  dsimp only [Pt.U, Pt.locs, Pt.cells, Pt.slots] at X' hl' hk' hn' st hQ
  subst hl' hk' hn'
  exact ⟨v, T', Lc, X', hQ, fun target k => st.trans k⟩
/-- the same where the callee leaves the heap as it is -/
theorem own_callI {own : String} {index : Nat} {y : MethodName} {bytes : ByteArray} {maxL : Nat} {rm : Room} {as' : Array Value} {W : Nat} {b : Addr}
    (X : Stand p l e R s m args below meth c T locs cells slots) (hx : p.tables.exec = Jvm.exec) (hZ : Z.Warmed39 s.vm) (hy1 : y.name = "<init>") (hown : s.vm.findClass own = some m.cls)
    (wl : (Cond.methodLink own index y).before a0 Z = true) (wi : (Cond.instanceMethod y).before a0 Z = true) (wz : (Cond.initialized y.cls).before a0 Z = true) (wc : (Cond.code y bytes maxL none).before a0 Z = true) (hy : y.cls ≠ "java/lang/invoke/MethodHandle" ∧ y.cls ≠ "java/lang/invoke/VarHandle")
    (hM : own_Met l Z y [Cond.code y bytes maxL none] rm as' h (own_Q none h)) (eT : T.heap = h)
    (hf : rm.frames + 1 ≤ R.frames) (hl : W + (maxL + 11) + rm.locals ≤ R.locals) (hc : cells + rm.cells ≤ R.cells) (hs : slots + rm.slots ≤ R.slots)
    {g : JFrame} (hg : g.method = m) (hsize : g.locals.size = c.maxLocals) {argsL rest : List Value} (hlen : ∀ sig, parseMethodDescriptor y.desc = some sig → argsL.length = sig.parameters.length) (hstack : g.stack = argsL.reverse ++ .ref b :: rest)
    (hW : 2 * g.monitorRoom + (rest.map fun v => v.category).sum ≤ W) (hdg : decode c.code g.pc = .ok (.invokespecial index, 3)) (hargs : (.ref b :: argsL).toArray = as') :
    ∃ T', Stand p l e R s m args below meth c T' locs (cells + rm.cells) (slots + rm.slots) ∧ T'.heap = h ∧ ∀ target, Steps p.tables e below (T'.setTop { g with pc := g.pc + 3, stack := rest }) target → Steps p.tables e below (T.setTop g) target := by
  obtain ⟨v, T', Lc, X', ⟨rfl, rfl, e'⟩, st⟩ := own_callIQ X hx hZ hy1 hown wl wi wz wc hy hM eT hf hl hc hs hg hsize hlen hstack hW hdg hargs
  rw [List.append_nil] at X'
  exact ⟨T', X', e', st⟩
/-- roads that join: the rest of the walk is told once, for every x -/
theorem own_join {α : Type} {P : Outcome → State → Prop} {g : α → JFrame} {g0 : JFrame} (X : Stand p l e R s m args below meth c T locs cells slots) (eT : T.heap = h)
    (body : ∀ (x : α) (T' : State), Stand p l e R s m args below meth c T' locs cells slots → T'.heap = h → own_Go p e below P T' (g x))
    (rest : (∀ (x : α) (T' : State), Stand p l e R s m args below meth c T' locs cells slots → T'.heap = h → own_Go p e below P T' (g x)) → own_Go p e below P T g0) : own_Go p e below P T g0 := rest body
/-- a class whose line of superclasses ends without K is none of K's, where K is a class that can be instantiated -/
theorem own_NSroot {O K : String} {n : Nat} (w : (Cond.noSuperclass O).before a0 Z = true) (wk : (Cond.instantiable K n).before a0 Z = true) (hn : O ≠ K) : NS Z O K := by
  obtain ⟨c, k, h1, h2, h3, -, -⟩ := Cond.noSuperclass_spec w
  obtain ⟨t, kt, g1, -⟩ := Cond.instantiable_spec wk
  have ne := ids_ne h1 g1 hn
  refine ⟨c, t, h1, g1, fun fuel => ?_⟩
  cases fuel with
  | zero => rfl
  | succ f => simp [Vm.isSubclassAux, ne, h2, h3]
theorem own_NSno {C S K : String} {n : Nat} (w : (Cond.superclass C S).before a0 Z = true) (wk : (Cond.instantiable K n).before a0 Z = true) (q : NS Z C K) (hn : C ≠ K) : ∃ c t, Z.vm.findClass C = some c ∧ Z.vm.findClass K = some t ∧ Z.vm.assignable c t = false := by
  obtain ⟨c, t, h0, g0, n3⟩ := q
  obtain ⟨p, k, kp, h1, h2, h3, h4, h5, -, h7⟩ := Cond.superclass_spec h0 w
  obtain ⟨t', kt, g1, g2, g5, g7, -⟩ := Cond.instantiable_spec wk
  cases g0.symm.trans g1
  have g8 : kt.isInterface = false := by simp at g7; exact g7.1
  have ne := ids_ne h0 g0 hn
  refine ⟨c, t, h0, g0, ?_⟩
  show Z.vm.assignableAux (255 + 1) c t = false
  simp [Vm.assignableAux, ne, h2, g2, h5, g5, g8, Vm.isSubclass, n3]
theorem own_len {t : Term} {a : Addr} {cl : Cell} {ty : FieldType} {z : Int32} (ev : t.eval args Z none [] Z = some (.ref a)) (A : Arr Z Z.heap a cl ty) (q : (Term.length t).eval args Z none [] Z = some (.int z)) : cl.slots.size < 2 ^ 31 ∧ cl.slots.size.toInt32 = z := by
  have ha : Z.arrayAt? a = some cl := A.fin (Vm.Alike.refl _)
  by_cases hl : cl.slots.size < 2 ^ 31
  · rw [len_f ev ha hl] at q
    exact ⟨hl, Value.int.inj (Option.some.inj q)⟩
  · exfalso
    simp [Term.eval, ev, ha, hl] at q
theorem own_size {n : Nat} {z : Int32} (q : n < 2 ^ 31) (e : n.toInt32 = z) : n = z.toNatClampNeg := by
  rw [← e]
  simp only [Int32.toNatClampNeg, len_toInt q]
  rfl
end Own
end Jvm.RoadKit
namespace Jvm.Pilot.@@N@@
open Jvm Jvm.ClassFile Sem Op Lib Jvm.Free Jvm.Stand Jvm.LawKit Jvm.RoadKit Bundle Jvm.Pilot.@@N@@.Jvm.D
theorem pn_0 : plainName "java/lang/Enum" = true := by first | (simp [plainName, overriddenIn]; done) | decide +kernel
theorem d_jdk_37_method_2_code_0 : decode jdk_37_method_2_code 0 = .ok (.aload_n 0, 1) := by decide +kernel
theorem d_jdk_37_method_2_code_1 : decode jdk_37_method_2_code 1 = .ok (.getfield 7, 3) := by decide +kernel
theorem d_jdk_37_method_2_code_4 : decode jdk_37_method_2_code 4 = .ok (.ireturn, 1) := by decide +kernel
set_option maxRecDepth 65536 in
set_option maxHeartbeats 40000000 in
theorem own_o (l : Launch) (Z : State) (a0 : Array Value) (hw : ∀ d ∈ tables_1, d.before a0 Z = true) (b : Addr) (n : Int32) (h0 : Heap) (F : Fld Z h0 b "java/lang/Enum" "ordinal" "I" (.int n)) :
    own_Met l Z (⟨"java/lang/Enum", "ordinal", "()I"⟩ : MethodName) [Jvm.Cond.code (⟨"java/lang/Enum", "ordinal", "()I"⟩ : MethodName) jdk_37_method_2_code 1 (some .int)] ({ frames := 0, cells := 0, slots := 0, locals := 0 } : Room) #[(.ref b)] h0 (own_Q (some (.int n)) h0) := by
  refine MetFree.of_bodySF (plainFor_of_name pn_0) hisR ?_
  intro p e s m args below meth c s₁ Bd hml0 hP hK
  obtain ⟨rfl, hZ, hh⟩ := hP
  have hx := Bd.exec
  have hby := Bd.bytes
  have hml : c.maxLocals = 1 := hml0
  have hown : s.vm.findClass "java/lang/Enum" = some m.cls := findClass_of_methodNamed Bd.named
  have hnm := (name_of_methodNamed Bd.named Bd.method).1
  have hlk : meth.locks = false := BodyLoose.notSynchronized Bd
  have X0 : Stand p l e ({ frames := 0, cells := 0, slots := 0, locals := 0 } : Room) s m #[(.ref b)] below meth c s₁ [] 0 0 := Stand.of_body Bd
  have e0 : s₁.heap = h0 := by rw [← hh, Bd.state]; rfl
  show own_Go p e below (own_End s (own_Q (some (.int n)) h0) 0 0) s₁ (entryFrame m #[(.ref b)] 1)
  refine own_start (g' := mkF m 0 #[.val (.ref b)] []) (by first | rfl | (simp [entryFrame, mkF, argsToLocals, Value.category, maxLocals]; done)) ?_
  refine own_via (T' := s₁) (g' := (mkF m 1 #[.val (.ref b)] [(.ref b)])) (fun t k => XS.aloadN X0.here hx rfl (hb hby d_jdk_37_method_2_code_0) rfl rfl k) ?_
  obtain ⟨T1, X1, e1, st1⟩ := getF X0 hx hZ hown (host := "") (Or.inl (hw _ (List.mem_of_getElem? (i := 18) rfl))) Via.refl e0 F (g := (mkF m 1 #[.val (.ref b)] [(.ref b)])) rfl rfl (hb hby d_jdk_37_method_2_code_1)
  refine own_via (T' := T1) (g' := (mkF m 4 #[.val (.ref b)] [(.int n)])) st1 ?_
  exact own_ret (t := .int) X1 hx Bd.returns hlk rfl (Or.inl ⟨rfl, by simp, _, rfl⟩) (hb hby d_jdk_37_method_2_code_4) (by decide) (by decide) ⟨rfl, rfl, e1⟩
theorem pn_1 : plainName "java/util/OptionalInt" = true := by first | (simp [plainName, overriddenIn]; done) | decide +kernel
theorem d_jdk_2649_method_2_code_0 : decode jdk_2649_method_2_code 0 = .ok (.getstatic 17, 3) := by decide +kernel
theorem d_jdk_2649_method_2_code_3 : decode jdk_2649_method_2_code 3 = .ok (.areturn, 1) := by decide +kernel
set_option maxRecDepth 65536 in
set_option maxHeartbeats 40000000 in
theorem own_em (l : Launch) (Z : State) (a0 : Array Value) (hw : ∀ d ∈ tables_1, d.before a0 Z = true) (wE : Addr) (h0 : Heap) (SE : Sta Z h0 "java/util/OptionalInt" "EMPTY" "Ljava/util/OptionalInt;" (.ref wE)) :
    own_Met l Z (⟨"java/util/OptionalInt", "empty", "()Ljava/util/OptionalInt;"⟩ : MethodName) [Jvm.Cond.code (⟨"java/util/OptionalInt", "empty", "()Ljava/util/OptionalInt;"⟩ : MethodName) jdk_2649_method_2_code 0 (some (.object "java/util/OptionalInt"))] ({ frames := 0, cells := 0, slots := 0, locals := 0 } : Room) #[] h0 (own_Q (some (.ref wE)) h0) := by
  refine MetFree.of_bodySF (plainFor_of_name pn_1) hisR ?_
  intro p e s m args below meth c s₁ Bd hml0 hP hK
  obtain ⟨rfl, hZ, hh⟩ := hP
  have hx := Bd.exec
  have hby := Bd.bytes
  have hml : c.maxLocals = 0 := hml0
  have hown : s.vm.findClass "java/util/OptionalInt" = some m.cls := findClass_of_methodNamed Bd.named
  have hnm := (name_of_methodNamed Bd.named Bd.method).1
  have hlk : meth.locks = false := BodyLoose.notSynchronized Bd
  have X0 : Stand p l e ({ frames := 0, cells := 0, slots := 0, locals := 0 } : Room) s m #[] below meth c s₁ [] 0 0 := Stand.of_body Bd
  have e0 : s₁.heap = h0 := by rw [← hh, Bd.state]; rfl
  show own_Go p e below (own_End s (own_Q (some (.ref wE)) h0) 0 0) s₁ (entryFrame m #[] 0)
  refine own_start (g' := mkF m 0 #[] []) (by first | rfl | (simp [entryFrame, mkF, argsToLocals, Value.category, maxLocals]; done)) ?_
  obtain ⟨T1, X1, e1, st1⟩ := getS2 X0 hx hZ hown (host := "") (Or.inl (hw _ (List.mem_of_getElem? (i := 24) rfl))) Via.refl e0 SE (g := (mkF m 0 #[] [])) rfl (hb hby d_jdk_2649_method_2_code_0)
  refine own_via (T' := T1) (g' := (mkF m 3 #[] [(.ref wE)])) st1 ?_
  exact own_ret (t := (.object "java/util/OptionalInt")) X1 hx Bd.returns hlk rfl (Or.inr (Or.inr (Or.inr (Or.inr ⟨rfl, rfl, rfl⟩)))) (hb hby d_jdk_2649_method_2_code_3) (by decide) (by decide) ⟨rfl, rfl, e1⟩
def own_Qi (Z : State) (b : Addr) (p1 : Int32) (h0 : Heap) (n0 : Nat) (v : Option Value) (h : Heap) (L : List Loc) : Prop := v = none ∧ Fr n0 L ∧ Keep h0 h [b] ∧ Exa Z h b "java/util/OptionalInt" ∧ Fld Z h b "java/util/OptionalInt" "isPresent" "Z" (.int (1 : Int32)) ∧ Fld Z h b "java/util/OptionalInt" "value" "I" (.int p1)
theorem d_jdk_2649_method_3_code_0 : decode jdk_2649_method_3_code 0 = .ok (.aload_n 0, 1) := by decide +kernel
theorem d_jdk_2649_method_3_code_1 : decode jdk_2649_method_3_code 1 = .ok (.invokespecial 1, 3) := by decide +kernel
theorem d_jdk_2649_method_3_code_4 : decode jdk_2649_method_3_code 4 = .ok (.aload_n 0, 1) := by decide +kernel
theorem d_jdk_2649_method_3_code_5 : decode jdk_2649_method_3_code 5 = .ok (.iconst 1, 1) := by decide +kernel
theorem d_jdk_2649_method_3_code_6 : decode jdk_2649_method_3_code 6 = .ok (.putfield 7, 3) := by decide +kernel
theorem d_jdk_2649_method_3_code_9 : decode jdk_2649_method_3_code 9 = .ok (.aload_n 0, 1) := by decide +kernel
theorem d_jdk_2649_method_3_code_10 : decode jdk_2649_method_3_code 10 = .ok (.iload_n 1, 1) := by decide +kernel
theorem d_jdk_2649_method_3_code_11 : decode jdk_2649_method_3_code 11 = .ok (.putfield 13, 3) := by decide +kernel
theorem d_jdk_2649_method_3_code_14 : decode jdk_2649_method_3_code 14 = .ok (.return_, 1) := by decide +kernel
set_option maxRecDepth 65536 in
set_option maxHeartbeats 40000000 in
theorem own_ci (l : Launch) (Z : State) (a0 : Array Value) (hw : ∀ d ∈ tables_1, d.before a0 Z = true) (b : Addr) (p1 : Int32) (u1 u2 : Value) (n0 : Nat) (h0 : Heap) (g_b : n0 ≤ b) (E_b : Exa Z h0 b "java/util/OptionalInt") (F_isPresent_b : Fld Z h0 b "java/util/OptionalInt" "isPresent" "Z" u1) (F_value_b : Fld Z h0 b "java/util/OptionalInt" "value" "I" u2) :
    own_Met l Z (⟨"java/util/OptionalInt", "<init>", "(I)V"⟩ : MethodName) [Jvm.Cond.code (⟨"java/util/OptionalInt", "<init>", "(I)V"⟩ : MethodName) jdk_2649_method_3_code 2 none] ({ frames := 1, cells := 0, slots := 0, locals := 12 } : Room) #[(.ref b), (.int p1)] h0 (own_Qi Z b p1 h0 n0) := by
  refine MetFree.of_bodySF (plainFor_of_name pn_1) hisR ?_
  intro p e s m args below meth c s₁ Bd hml0 hP hK
  obtain ⟨rfl, hZ, hh⟩ := hP
  have hx := Bd.exec
  have hby := Bd.bytes
  have hml : c.maxLocals = 2 := hml0
  have hown : s.vm.findClass "java/util/OptionalInt" = some m.cls := findClass_of_methodNamed Bd.named
  have hnm := (name_of_methodNamed Bd.named Bd.method).1
  have hlk : meth.locks = false := BodyLoose.notSynchronized Bd
  have X0 : Stand p l e ({ frames := 1, cells := 0, slots := 0, locals := 12 } : Room) s m #[(.ref b), (.int p1)] below meth c s₁ [] 0 0 := Stand.of_body Bd
  have e0 : s₁.heap = h0 := by rw [← hh, Bd.state]; rfl
  show own_Go p e below (own_End s (own_Qi Z b p1 h0 n0) 0 0) s₁ (entryFrame m #[(.ref b), (.int p1)] 2)
  refine own_start (g' := mkF m 0 #[.val (.ref b), .val (.int p1)] []) (by first | rfl | (simp [entryFrame, mkF, argsToLocals, Value.category, maxLocals]; done)) ?_
  have K : Keep h0 h0 [b] := Keep.refl _ _
  have N : Fr n0 [] := Fr.nil _
  refine own_via (T' := s₁) (g' := (mkF m 1 #[.val (.ref b), .val (.int p1)] [(.ref b)])) (fun t k => XS.aloadN X0.here hx rfl (hb hby d_jdk_2649_method_3_code_0) rfl rfl k) ?_
  obtain ⟨T1, X1, e1, st1⟩ := initO X0 hx hZ hown (hw _ (List.mem_of_getElem? (i := 43) rfl)) (hw _ (List.mem_of_getElem? (i := 44) rfl)) (hw _ (List.mem_of_getElem? (i := 45) rfl)) e0 (g := (mkF m 1 #[.val (.ref b), .val (.int p1)] [(.ref b)])) rfl (by rw [hml]; rfl) rfl (hb hby d_jdk_2649_method_3_code_1) (by decide) (W := 0) (by show 2 * 0 + _ ≤ _; exact Nat.le_of_eq rfl) (by decide)
  refine own_via (T' := T1) (g' := (mkF m 4 #[.val (.ref b), .val (.int p1)] [])) st1 ?_
  refine own_via (T' := T1) (g' := (mkF m 5 #[.val (.ref b), .val (.int p1)] [(.ref b)])) (fun t k => XS.aloadN X1.here hx rfl (hb hby d_jdk_2649_method_3_code_4) rfl rfl k) ?_
  refine own_via (T' := T1) (g' := (mkF m 6 #[.val (.ref b), .val (.int p1)] [(.int (1 : Int32)), (.ref b)])) (fun t k => XS.iconst X1.here hx rfl (hb hby d_jdk_2649_method_3_code_5) k) ?_
  obtain ⟨T2, h2, X2, e2, W2, st2⟩ := putFN X1 hx hZ hown (hw _ (List.mem_of_getElem? (i := 30) rfl)) Via.refl e1 F_isPresent_b E_b (Or.inr ⟨(hw _ (List.mem_of_getElem? (i := 31) rfl)), rfl, hnm⟩) (hw _ (List.mem_of_getElem? (i := 38) rfl)) (ty := .boolean) (v' := (.int (1 : Int32))) (by decide) rfl rfl (g := (mkF m 6 #[.val (.ref b), .val (.int p1)] [(.int (1 : Int32)), (.ref b)])) rfl rfl (hb hby d_jdk_2649_method_3_code_6)
  have K := K.wr W2 (Or.inl (List.mem_of_getElem? (i := 0) rfl))
  have N := Fr.snoc X2 N g_b
  have E_b := E_b.wr W2
  have F_isPresent_b := F_isPresent_b.same W2
  have F_value_b := F_value_b.other W2 (Or.inr (slot_ne (Or.inr (hw _ (List.mem_of_getElem? (i := 47) rfl))) (Or.inr (hw _ (List.mem_of_getElem? (i := 31) rfl))) (by decide) (t := .int) (t' := .boolean) (by decide) (by decide)))
  refine own_via (T' := T2) (g' := (mkF m 9 #[.val (.ref b), .val (.int p1)] [])) st2 ?_
  refine own_via (T' := T2) (g' := (mkF m 10 #[.val (.ref b), .val (.int p1)] [(.ref b)])) (fun t k => XS.aloadN X2.here hx rfl (hb hby d_jdk_2649_method_3_code_9) rfl rfl k) ?_
  refine own_via (T' := T2) (g' := (mkF m 11 #[.val (.ref b), .val (.int p1)] [(.int p1), (.ref b)])) (fun t k => XS.iloadN X2.here hx rfl (hb hby d_jdk_2649_method_3_code_10) rfl k) ?_
  obtain ⟨T3, h3, X3, e3, W3, st3⟩ := putF X2 hx hZ hown (host := "") (Or.inl (hw _ (List.mem_of_getElem? (i := 46) rfl))) Via.refl e2 F_value_b E_b (Or.inr ⟨(hw _ (List.mem_of_getElem? (i := 47) rfl)), rfl, hnm⟩) (hw _ (List.mem_of_getElem? (i := 38) rfl)) (ty := .int) (by decide) rfl rfl (g := (mkF m 11 #[.val (.ref b), .val (.int p1)] [(.int p1), (.ref b)])) rfl rfl (hb hby d_jdk_2649_method_3_code_11)
  have K := K.wr W3 (Or.inl (List.mem_of_getElem? (i := 0) rfl))
  have N := Fr.snoc X3 N g_b
  have E_b := E_b.wr W3
  have F_isPresent_b := F_isPresent_b.other W3 (Or.inr (slot_ne (Or.inr (hw _ (List.mem_of_getElem? (i := 31) rfl))) (Or.inr (hw _ (List.mem_of_getElem? (i := 47) rfl))) (by decide) (t := .boolean) (t' := .int) (by decide) (by decide)))
  have F_value_b := F_value_b.same W3
  refine own_via (T' := T3) (g' := (mkF m 14 #[.val (.ref b), .val (.int p1)] [])) st3 ?_
  exact own_retV X3 hx Bd.returns hlk (hb hby d_jdk_2649_method_3_code_14) (by decide) (by decide) (by rw [e3]; exact ⟨rfl, N, K, E_b, F_isPresent_b, F_value_b⟩)
def own_Qf (Z : State) (p1 : Int32) (h0 : Heap) (n0 : Nat) (v : Option Value) (h : Heap) (L : List Loc) : Prop := ∃ z : Addr, v = some (.ref z) ∧ Fr n0 L ∧ Keep h0 h [] ∧ Exa Z h z "java/util/OptionalInt" ∧ Fld Z h z "java/util/OptionalInt" "isPresent" "Z" (.int (1 : Int32)) ∧ Fld Z h z "java/util/OptionalInt" "value" "I" (.int p1)
theorem pd_14 : parseMethodDescriptor "(I)V" = some ⟨[.int], none⟩ := by decide +kernel
theorem d_jdk_2649_method_4_code_0 : decode jdk_2649_method_4_code 0 = .ok (.new 8, 3) := by decide +kernel
theorem d_jdk_2649_method_4_code_3 : decode jdk_2649_method_4_code 3 = .ok (.dup, 1) := by decide +kernel
theorem d_jdk_2649_method_4_code_4 : decode jdk_2649_method_4_code 4 = .ok (.iload_n 0, 1) := by decide +kernel
theorem d_jdk_2649_method_4_code_5 : decode jdk_2649_method_4_code 5 = .ok (.invokespecial 21, 3) := by decide +kernel
theorem d_jdk_2649_method_4_code_8 : decode jdk_2649_method_4_code 8 = .ok (.areturn, 1) := by decide +kernel
set_option maxRecDepth 65536 in
set_option maxHeartbeats 40000000 in
theorem own_of (l : Launch) (Z : State) (a0 : Array Value) (hw : ∀ d ∈ tables_1, d.before a0 Z = true) (p1 : Int32) (n0 : Nat) (h0 : Heap) (Z0 : n0 ≤ h0.size) :
    own_Met l Z (⟨"java/util/OptionalInt", "of", "(I)Ljava/util/OptionalInt;"⟩ : MethodName) [Jvm.Cond.code (⟨"java/util/OptionalInt", "of", "(I)Ljava/util/OptionalInt;"⟩ : MethodName) jdk_2649_method_4_code 1 (some (.object "java/util/OptionalInt"))] ({ frames := 2, cells := 1, slots := 2, locals := 26 } : Room) #[(.int p1)] h0 (own_Qf Z p1 h0 n0) := by
  refine MetFree.of_bodySF (plainFor_of_name pn_1) hisR ?_
  intro p e s m args below meth c s₁ Bd hml0 hP hK
  obtain ⟨rfl, hZ, hh⟩ := hP
  have hx := Bd.exec
  have hby := Bd.bytes
  have hml : c.maxLocals = 1 := hml0
  have hown : s.vm.findClass "java/util/OptionalInt" = some m.cls := findClass_of_methodNamed Bd.named
  have hnm := (name_of_methodNamed Bd.named Bd.method).1
  have hlk : meth.locks = false := BodyLoose.notSynchronized Bd
  have X0 : Stand p l e ({ frames := 2, cells := 1, slots := 2, locals := 26 } : Room) s m #[(.int p1)] below meth c s₁ [] 0 0 := Stand.of_body Bd
  have e0 : s₁.heap = h0 := by rw [← hh, Bd.state]; rfl
  show own_Go p e below (own_End s (own_Qf Z p1 h0 n0) 1 2) s₁ (entryFrame m #[(.int p1)] 1)
  refine own_start (g' := mkF m 0 #[.val (.int p1)] []) (by first | rfl | (simp [entryFrame, mkF, argsToLocals, Value.category, maxLocals]; done)) ?_
  have K : Keep h0 h0 [] := Keep.refl _ _
  have N : Fr n0 [] := Fr.nil _
  obtain ⟨T1, h1, X1, e1, E1, A1, D1, -, st1⟩ := newO X0 hx hZ hown (hw _ (List.mem_of_getElem? (i := 37) rfl)) (hw _ (List.mem_of_getElem? (i := 38) rfl)) (hw _ (List.mem_of_getElem? (i := 22) rfl)) e0 (g := (mkF m 0 #[.val (.int p1)] [])) rfl (hb hby d_jdk_2649_method_4_code_0) (by decide) (by decide)
  obtain ⟨b1, g1⟩ : ∃ z, z = h0.size := ⟨_, rfl⟩
  rw [← g1] at A1 D1 st1
  have g_b1 : n0 ≤ b1 := by rw [g1]; exact Nat.le_trans Z0 K.1
  have sz_b1 : h0.size ≤ b1 := by rw [g1]; exact K.1
  have K := K.ext E1
  have E_b1 := A1
  have F_isPresent_b1 : Fld Z h1 b1 "java/util/OptionalInt" "isPresent" "Z" (.int (0 : Int32)) := D1 (Or.inr (hw _ (List.mem_of_getElem? (i := 31) rfl))) (ty := .boolean) (by decide)
  have F_value_b1 : Fld Z h1 b1 "java/util/OptionalInt" "value" "I" (.int (0 : Int32)) := D1 (Or.inr (hw _ (List.mem_of_getElem? (i := 47) rfl))) (ty := .int) (by decide)
  refine own_via (T' := T1) (g' := (mkF m 3 #[.val (.int p1)] [(.ref b1)])) st1 ?_
  refine own_via (T' := T1) (g' := (mkF m 4 #[.val (.int p1)] [(.ref b1), (.ref b1)])) (fun t k => XS.dup X1.here hx rfl (hb hby d_jdk_2649_method_4_code_3) rfl rfl k) ?_
  refine own_via (T' := T1) (g' := (mkF m 5 #[.val (.int p1)] [(.int p1), (.ref b1), (.ref b1)])) (fun t k => XS.iloadN X1.here hx rfl (hb hby d_jdk_2649_method_4_code_4) rfl k) ?_
  obtain ⟨v2, T2, Lc2, X2, hQ2, st2⟩ := own_callIQ (W := 1) (y := (⟨"java/util/OptionalInt", "<init>", "(I)V"⟩ : MethodName)) X1 hx hZ rfl hown (hw _ (List.mem_of_getElem? (i := 39) rfl)) (hw _ (List.mem_of_getElem? (i := 40) rfl)) (hw _ (List.mem_of_getElem? (i := 22) rfl)) (hw _ (List.mem_of_getElem? (i := 42) rfl)) (by decide) (own_ci l Z a0 hw b1 p1 (.int (0 : Int32)) (.int (0 : Int32)) n0 h1 g_b1 E_b1 F_isPresent_b1 F_value_b1) e1 (by decide) (by decide) (by decide) (by decide) (g := (mkF m 5 #[.val (.int p1)] [(.int p1), (.ref b1), (.ref b1)])) rfl (by rw [hml]; rfl) (argsL := [(.int p1)]) (rest := [(.ref b1)]) (lenOf pd_14 rfl) rfl (by show 2 * 0 + _ ≤ _; exact Nat.le_of_eq rfl) (hb hby d_jdk_2649_method_4_code_5) rfl
  obtain ⟨rfl, N2, K2, E2, F2p, F2v⟩ := hQ2
  have K := K.trans K2 (allS (Or.inr sz_b1) all0)
  have N := Fr.app N N2
  have E_b1 := E_b1.keep K2
  have F_isPresent_b1 := F2p
  have F_value_b1 := F2v
  refine own_via (T' := T2) (g' := (mkF m 8 #[.val (.int p1)] [(.ref b1)])) st2 ?_
  exact own_ret (t := (.object "java/util/OptionalInt")) X2 hx Bd.returns hlk rfl (Or.inr (Or.inr (Or.inr (Or.inr ⟨rfl, rfl, rfl⟩)))) (hb hby d_jdk_2649_method_4_code_8) (by decide) (by decide) ⟨_, rfl, N, K, E_b1, F_isPresent_b1, F_value_b1⟩
theorem d_jdk_2649_method_6_code_0 : decode jdk_2649_method_6_code 0 = .ok (.aload_n 0, 1) := by decide +kernel
theorem d_jdk_2649_method_6_code_1 : decode jdk_2649_method_6_code 1 = .ok (.getfield 7, 3) := by decide +kernel
theorem d_jdk_2649_method_6_code_4 : decode jdk_2649_method_6_code 4 = .ok (.ireturn, 1) := by decide +kernel
set_option maxRecDepth 65536 in
set_option maxHeartbeats 40000000 in
theorem own_ip0 (l : Launch) (Z : State) (a0 : Array Value) (hw : ∀ d ∈ tables_1, d.before a0 Z = true) (b : Addr) (h0 : Heap) (F : Fld Z h0 b "java/util/OptionalInt" "isPresent" "Z" (.int (0 : Int32))) :
    own_Met l Z (⟨"java/util/OptionalInt", "isPresent", "()Z"⟩ : MethodName) [Jvm.Cond.code (⟨"java/util/OptionalInt", "isPresent", "()Z"⟩ : MethodName) jdk_2649_method_6_code 1 (some .boolean)] ({ frames := 0, cells := 0, slots := 0, locals := 0 } : Room) #[(.ref b)] h0 (own_Q (some (.int (0 : Int32))) h0) := by
  refine MetFree.of_bodySF (plainFor_of_name pn_1) hisR ?_
  intro p e s m args below meth c s₁ Bd hml0 hP hK
  obtain ⟨rfl, hZ, hh⟩ := hP
  have hx := Bd.exec
  have hby := Bd.bytes
  have hml : c.maxLocals = 1 := hml0
  have hown : s.vm.findClass "java/util/OptionalInt" = some m.cls := findClass_of_methodNamed Bd.named
  have hnm := (name_of_methodNamed Bd.named Bd.method).1
  have hlk : meth.locks = false := BodyLoose.notSynchronized Bd
  have X0 : Stand p l e ({ frames := 0, cells := 0, slots := 0, locals := 0 } : Room) s m #[(.ref b)] below meth c s₁ [] 0 0 := Stand.of_body Bd
  have e0 : s₁.heap = h0 := by rw [← hh, Bd.state]; rfl
  show own_Go p e below (own_End s (own_Q (some (.int (0 : Int32))) h0) 0 0) s₁ (entryFrame m #[(.ref b)] 1)
  refine own_start (g' := mkF m 0 #[.val (.ref b)] []) (by first | rfl | (simp [entryFrame, mkF, argsToLocals, Value.category, maxLocals]; done)) ?_
  refine own_via (T' := s₁) (g' := (mkF m 1 #[.val (.ref b)] [(.ref b)])) (fun t k => XS.aloadN X0.here hx rfl (hb hby d_jdk_2649_method_6_code_0) rfl rfl k) ?_
  obtain ⟨T1, X1, e1, st1⟩ := getF X0 hx hZ hown (host := "") (Or.inl (hw _ (List.mem_of_getElem? (i := 30) rfl))) Via.refl e0 F (g := (mkF m 1 #[.val (.ref b)] [(.ref b)])) rfl rfl (hb hby d_jdk_2649_method_6_code_1)
  refine own_via (T' := T1) (g' := (mkF m 4 #[.val (.ref b)] [(.int (0 : Int32))])) st1 ?_
  exact own_ret (t := .boolean) X1 hx Bd.returns hlk rfl (Or.inl ⟨rfl, by simp, _, rfl⟩) (hb hby d_jdk_2649_method_6_code_4) (by decide) (by decide) ⟨rfl, rfl, e1⟩
set_option maxRecDepth 65536 in
set_option maxHeartbeats 40000000 in
theorem own_ip1 (l : Launch) (Z : State) (a0 : Array Value) (hw : ∀ d ∈ tables_1, d.before a0 Z = true) (b : Addr) (h0 : Heap) (F : Fld Z h0 b "java/util/OptionalInt" "isPresent" "Z" (.int (1 : Int32))) :
    own_Met l Z (⟨"java/util/OptionalInt", "isPresent", "()Z"⟩ : MethodName) [Jvm.Cond.code (⟨"java/util/OptionalInt", "isPresent", "()Z"⟩ : MethodName) jdk_2649_method_6_code 1 (some .boolean)] ({ frames := 0, cells := 0, slots := 0, locals := 0 } : Room) #[(.ref b)] h0 (own_Q (some (.int (1 : Int32))) h0) := by
  refine MetFree.of_bodySF (plainFor_of_name pn_1) hisR ?_
  intro p e s m args below meth c s₁ Bd hml0 hP hK
  obtain ⟨rfl, hZ, hh⟩ := hP
  have hx := Bd.exec
  have hby := Bd.bytes
  have hml : c.maxLocals = 1 := hml0
  have hown : s.vm.findClass "java/util/OptionalInt" = some m.cls := findClass_of_methodNamed Bd.named
  have hnm := (name_of_methodNamed Bd.named Bd.method).1
  have hlk : meth.locks = false := BodyLoose.notSynchronized Bd
  have X0 : Stand p l e ({ frames := 0, cells := 0, slots := 0, locals := 0 } : Room) s m #[(.ref b)] below meth c s₁ [] 0 0 := Stand.of_body Bd
  have e0 : s₁.heap = h0 := by rw [← hh, Bd.state]; rfl
  show own_Go p e below (own_End s (own_Q (some (.int (1 : Int32))) h0) 0 0) s₁ (entryFrame m #[(.ref b)] 1)
  refine own_start (g' := mkF m 0 #[.val (.ref b)] []) (by first | rfl | (simp [entryFrame, mkF, argsToLocals, Value.category, maxLocals]; done)) ?_
  refine own_via (T' := s₁) (g' := (mkF m 1 #[.val (.ref b)] [(.ref b)])) (fun t k => XS.aloadN X0.here hx rfl (hb hby d_jdk_2649_method_6_code_0) rfl rfl k) ?_
  obtain ⟨T1, X1, e1, st1⟩ := getF X0 hx hZ hown (host := "") (Or.inl (hw _ (List.mem_of_getElem? (i := 30) rfl))) Via.refl e0 F (g := (mkF m 1 #[.val (.ref b)] [(.ref b)])) rfl rfl (hb hby d_jdk_2649_method_6_code_1)
  refine own_via (T' := T1) (g' := (mkF m 4 #[.val (.ref b)] [(.int (1 : Int32))])) st1 ?_
  exact own_ret (t := .boolean) X1 hx Bd.returns hlk rfl (Or.inl ⟨rfl, by simp, _, rfl⟩) (hb hby d_jdk_2649_method_6_code_4) (by decide) (by decide) ⟨rfl, rfl, e1⟩
theorem d_jdk_2649_method_5_code_0 : decode jdk_2649_method_5_code 0 = .ok (.aload_n 0, 1) := by decide +kernel
theorem d_jdk_2649_method_5_code_1 : decode jdk_2649_method_5_code 1 = .ok (.getfield 7, 3) := by decide +kernel
theorem d_jdk_2649_method_5_code_4 : decode jdk_2649_method_5_code 4 = .ok (.ifCond .ne 13, 3) := by decide +kernel
theorem d_jdk_2649_method_5_code_17 : decode jdk_2649_method_5_code 17 = .ok (.aload_n 0, 1) := by decide +kernel
theorem d_jdk_2649_method_5_code_18 : decode jdk_2649_method_5_code 18 = .ok (.getfield 13, 3) := by decide +kernel
theorem d_jdk_2649_method_5_code_21 : decode jdk_2649_method_5_code 21 = .ok (.ireturn, 1) := by decide +kernel
set_option maxRecDepth 65536 in
set_option maxHeartbeats 40000000 in
theorem own_ga (l : Launch) (Z : State) (a0 : Array Value) (hw : ∀ d ∈ tables_1, d.before a0 Z = true) (b : Addr) (q : Int32) (h0 : Heap) (F : Fld Z h0 b "java/util/OptionalInt" "isPresent" "Z" (.int (1 : Int32))) (G : Fld Z h0 b "java/util/OptionalInt" "value" "I" (.int q)) :
    own_Met l Z (⟨"java/util/OptionalInt", "getAsInt", "()I"⟩ : MethodName) [Jvm.Cond.code (⟨"java/util/OptionalInt", "getAsInt", "()I"⟩ : MethodName) jdk_2649_method_5_code 1 (some .int)] ({ frames := 0, cells := 0, slots := 0, locals := 0 } : Room) #[(.ref b)] h0 (own_Q (some (.int q)) h0) := by
  refine MetFree.of_bodySF (plainFor_of_name pn_1) hisR ?_
  intro p e s m args below meth c s₁ Bd hml0 hP hK
  obtain ⟨rfl, hZ, hh⟩ := hP
  have hx := Bd.exec
  have hby := Bd.bytes
  have hml : c.maxLocals = 1 := hml0
  have hown : s.vm.findClass "java/util/OptionalInt" = some m.cls := findClass_of_methodNamed Bd.named
  have hnm := (name_of_methodNamed Bd.named Bd.method).1
  have hlk : meth.locks = false := BodyLoose.notSynchronized Bd
  have X0 : Stand p l e ({ frames := 0, cells := 0, slots := 0, locals := 0 } : Room) s m #[(.ref b)] below meth c s₁ [] 0 0 := Stand.of_body Bd
  have e0 : s₁.heap = h0 := by rw [← hh, Bd.state]; rfl
  show own_Go p e below (own_End s (own_Q (some (.int q)) h0) 0 0) s₁ (entryFrame m #[(.ref b)] 1)
  refine own_start (g' := mkF m 0 #[.val (.ref b)] []) (by first | rfl | (simp [entryFrame, mkF, argsToLocals, Value.category, maxLocals]; done)) ?_
  refine own_via (T' := s₁) (g' := (mkF m 1 #[.val (.ref b)] [(.ref b)])) (fun t k => XS.aloadN X0.here hx rfl (hb hby d_jdk_2649_method_5_code_0) rfl rfl k) ?_
  obtain ⟨T1, X1, e1, st1⟩ := getF X0 hx hZ hown (host := "") (Or.inl (hw _ (List.mem_of_getElem? (i := 30) rfl))) Via.refl e0 F (g := (mkF m 1 #[.val (.ref b)] [(.ref b)])) rfl rfl (hb hby d_jdk_2649_method_5_code_1)
  refine own_via (T' := T1) (g' := (mkF m 4 #[.val (.ref b)] [(.int (1 : Int32))])) st1 ?_
  refine own_via (T' := T1) (g' := (mkF m 17 #[.val (.ref b)] [])) (fun t k => XS.ifYes X1.here hx rfl (pc0 := 4) (pc' := 17) rfl (hb hby d_jdk_2649_method_5_code_4) rfl ((if0 _ _).trans (feq (by decide)).2) (by decide) (by decide) k) ?_
  refine own_via (T' := T1) (g' := (mkF m 18 #[.val (.ref b)] [(.ref b)])) (fun t k => XS.aloadN X1.here hx rfl (hb hby d_jdk_2649_method_5_code_17) rfl rfl k) ?_
  obtain ⟨T2, X2, e2, st2⟩ := getF X1 hx hZ hown (host := "") (Or.inl (hw _ (List.mem_of_getElem? (i := 46) rfl))) Via.refl e1 G (g := (mkF m 18 #[.val (.ref b)] [(.ref b)])) rfl rfl (hb hby d_jdk_2649_method_5_code_18)
  refine own_via (T' := T2) (g' := (mkF m 21 #[.val (.ref b)] [(.int q)])) st2 ?_
  exact own_ret (t := .int) X2 hx Bd.returns hlk rfl (Or.inl ⟨rfl, by simp, _, rfl⟩) (hb hby d_jdk_2649_method_5_code_21) (by decide) (by decide) ⟨rfl, rfl, e2⟩
theorem pn_2 : plainName "com/example/join_or_begin/joinorbegin/jdbc/JdbcIsolation" = true := by first | (simp [plainName, overriddenIn]; done) | decide +kernel
theorem pd_29 : parseMethodDescriptor "()I" = some ⟨[], some .int⟩ := by decide +kernel
theorem pd_30 : parseMethodDescriptor "()Ljava/util/OptionalInt;" = some ⟨[], some (.object "java/util/OptionalInt")⟩ := by decide +kernel
theorem d_prog_30_method_2_code_0 : decode prog_30_method_2_code 0 = .ok (.getstatic 7, 3) := by decide +kernel
theorem d_prog_30_method_2_code_3 : decode prog_30_method_2_code 3 = .ok (.aload_n 0, 1) := by decide +kernel
theorem d_prog_30_method_2_code_4 : decode prog_30_method_2_code 4 = .ok (.invokevirtual 13, 3) := by decide +kernel
theorem d_prog_30_method_2_code_7 : decode prog_30_method_2_code 7 = .ok (.iaload, 1) := by decide +kernel
theorem d_prog_30_method_2_code_8 : decode prog_30_method_2_code 8 = .ok (.tableswitch 36 1 5 #[46, 52, 59, 66, 73], 36) := by decide +kernel
theorem d_prog_30_method_2_code_54 : decode prog_30_method_2_code 54 = .ok (.invokestatic 24, 3) := by decide +kernel
theorem d_prog_30_method_2_code_57 : decode prog_30_method_2_code 57 = .ok (.goto 29, 3) := by decide +kernel
theorem d_prog_30_method_2_code_86 : decode prog_30_method_2_code 86 = .ok (.areturn, 1) := by decide +kernel
set_option maxRecDepth 65536 in
set_option maxHeartbeats 40000000 in
theorem own_lv0 (l : Launch) (Z : State) (a0 : Array Value) (hw : ∀ d ∈ tables_1, d.before a0 Z = true) (b sa : Addr) (cl : Cell) (wE : Addr) (h0 : Heap) (E : Exa Z h0 b "com/example/join_or_begin/joinorbegin/Isolation") (F : Fld Z h0 b "java/lang/Enum" "ordinal" "I" (.int (0 : Int32))) (SW : Sta Z h0 "com/example/join_or_begin/joinorbegin/jdbc/JdbcIsolation$1" "$SwitchMap$com$example$join_or_begin$joinorbegin$Isolation" "[I" (.ref sa)) (Ar : Arr Z h0 sa cl .int) (SZ : cl.slots.size = (5 : Int32).toNatClampNeg) (el0 : cl.slots[((0 : Int32)).toNatClampNeg]? = some (.int (1 : Int32))) (SE : Sta Z h0 "java/util/OptionalInt" "EMPTY" "Ljava/util/OptionalInt;" (.ref wE)) :
    own_Met l Z (⟨"com/example/join_or_begin/joinorbegin/jdbc/JdbcIsolation", "levelOf", "(Lcom/example/join_or_begin/joinorbegin/Isolation;)Ljava/util/OptionalInt;"⟩ : MethodName) [Jvm.Cond.code (⟨"com/example/join_or_begin/joinorbegin/jdbc/JdbcIsolation", "levelOf", "(Lcom/example/join_or_begin/joinorbegin/Isolation;)Ljava/util/OptionalInt;"⟩ : MethodName) prog_30_method_2_code 1 (some (.object "java/util/OptionalInt"))] ({ frames := 1, cells := 0, slots := 0, locals := 13 } : Room) #[(.ref b)] h0 (own_Q (some (.ref wE)) h0) := by
  refine MetFree.of_bodySF (plainFor_of_name pn_2) hisR ?_
  intro p e s m args below meth c s₁ Bd hml0 hP hK
  obtain ⟨rfl, hZ, hh⟩ := hP
  have hx := Bd.exec
  have hby := Bd.bytes
  have hml : c.maxLocals = 1 := hml0
  have hown : s.vm.findClass "com/example/join_or_begin/joinorbegin/jdbc/JdbcIsolation" = some m.cls := findClass_of_methodNamed Bd.named
  have hnm := (name_of_methodNamed Bd.named Bd.method).1
  have hlk : meth.locks = false := BodyLoose.notSynchronized Bd
  have X0 : Stand p l e ({ frames := 1, cells := 0, slots := 0, locals := 13 } : Room) s m #[(.ref b)] below meth c s₁ [] 0 0 := Stand.of_body Bd
  have e0 : s₁.heap = h0 := by rw [← hh, Bd.state]; rfl
  show own_Go p e below (own_End s (own_Q (some (.ref wE)) h0) 0 0) s₁ (entryFrame m #[(.ref b)] 1)
  refine own_start (g' := mkF m 0 #[.val (.ref b)] []) (by first | rfl | (simp [entryFrame, mkF, argsToLocals, Value.category, maxLocals]; done)) ?_
  obtain ⟨T1, X1, e1, st1⟩ := getS2 X0 hx hZ hown (host := "") (Or.inl (hw _ (List.mem_of_getElem? (i := 8) rfl))) Via.refl e0 SW (g := (mkF m 0 #[.val (.ref b)] [])) rfl (hb hby d_prog_30_method_2_code_0)
  refine own_via (T' := T1) (g' := (mkF m 3 #[.val (.ref b)] [(.ref sa)])) st1 ?_
  refine own_via (T' := T1) (g' := (mkF m 4 #[.val (.ref b)] [(.ref b), (.ref sa)])) (fun t k => XS.aloadN X1.here hx rfl (hb hby d_prog_30_method_2_code_3) rfl rfl k) ?_
  obtain ⟨T2, X2, e2, st2⟩ := own_callU (W := 1) (r := (some (.int (0 : Int32)))) (y := (⟨"com/example/join_or_begin/joinorbegin/Isolation", "ordinal", "()I"⟩ : MethodName)) (z := (⟨"java/lang/Enum", "ordinal", "()I"⟩ : MethodName)) (owner := "java/lang/Enum") X1 hx hZ hown (hw _ (List.mem_of_getElem? (i := 11) rfl)) (hw _ (List.mem_of_getElem? (i := 12) rfl)) (hw _ (List.mem_of_getElem? (i := 13) rfl)) (by decide) (hw _ (List.mem_of_getElem? (i := 15) rfl)) (hw _ (List.mem_of_getElem? (i := 14) rfl)) (hw _ (List.mem_of_getElem? (i := 17) rfl)) (hw _ (List.mem_of_getElem? (i := 16) rfl)) (own_o l Z a0 hw b (0 : Int32) h0 F) e1 E (by decide) (by decide) (by decide) (by decide) (g := (mkF m 4 #[.val (.ref b)] [(.ref b), (.ref sa)])) rfl (by rw [hml]; rfl) (argsL := []) (rest := [(.ref sa)]) (lenOf pd_29 rfl) rfl (by show 2 * 0 + _ ≤ _; exact Nat.le_of_eq rfl) (hb hby d_prog_30_method_2_code_4) rfl
  refine own_via (T' := T2) (g' := (mkF m 7 #[.val (.ref b)] [(.int (0 : Int32)), (.ref sa)])) st2 ?_
  refine own_via (T' := T2) (g' := (mkF m 8 #[.val (.ref b)] [(.int (1 : Int32))])) (fun t k => X2.iaload hx (j := (0 : Int32)) (v := .int (1 : Int32)) (by rw [e2]; exact Ar.1) (State.isArrayOf_alike hZ.alike Ar.2.1) Ar.2.2 (inb_of SZ ⟨by decide, by decide⟩) el0 (g := (mkF m 7 #[.val (.ref b)] [(.int (0 : Int32)), (.ref sa)])) rfl rfl (hb hby d_prog_30_method_2_code_7) t k) ?_
  refine own_via (T' := T2) (g' := (mkF m 54 #[.val (.ref b)] [])) (fun t k => XS.tswIn X2.here hx rfl (pc0 := 8) (pc' := 54) rfl (hb hby d_prog_30_method_2_code_8) rfl (by decide) (o := 46) (by decide) (by decide) (by decide) k) ?_
  obtain ⟨T3, X3, e3, st3⟩ := own_callS (W := 0) (r := (some (.ref wE))) (y := (⟨"java/util/OptionalInt", "empty", "()Ljava/util/OptionalInt;"⟩ : MethodName)) X2 hx hZ hown (hw _ (List.mem_of_getElem? (i := 20) rfl)) (hw _ (List.mem_of_getElem? (i := 21) rfl)) (hw _ (List.mem_of_getElem? (i := 22) rfl)) (hw _ (List.mem_of_getElem? (i := 23) rfl)) (by decide) (own_em l Z a0 hw wE h0 SE) e2 (by decide) (by decide) (by decide) (by decide) (g := (mkF m 54 #[.val (.ref b)] [])) rfl (by rw [hml]; rfl) (argsL := []) (rest := []) (lenOf pd_30 rfl) rfl (by show 2 * 0 + _ ≤ _; exact Nat.le_of_eq rfl) (hb hby d_prog_30_method_2_code_54) rfl
  refine own_via (T' := T3) (g' := (mkF m 57 #[.val (.ref b)] [(.ref wE)])) st3 ?_
  refine own_via (T' := T3) (g' := (mkF m 86 #[.val (.ref b)] [(.ref wE)])) (fun t k => XS.goto X3.here hx rfl (pc0 := 57) (pc' := 86) rfl (hb hby d_prog_30_method_2_code_57) (by decide) (by decide) k) ?_
  exact own_ret (t := (.object "java/util/OptionalInt")) X3 hx Bd.returns hlk rfl (Or.inr (Or.inr (Or.inr (Or.inr ⟨rfl, rfl, rfl⟩)))) (hb hby d_prog_30_method_2_code_86) (by decide) (by decide) ⟨rfl, rfl, e3⟩
theorem pd_39 : parseMethodDescriptor "(I)Ljava/util/OptionalInt;" = some ⟨[.int], some (.object "java/util/OptionalInt")⟩ := by decide +kernel
theorem d_prog_30_method_2_code_60 : decode prog_30_method_2_code 60 = .ok (.iconst 1, 1) := by decide +kernel
theorem d_prog_30_method_2_code_61 : decode prog_30_method_2_code 61 = .ok (.invokestatic 32, 3) := by decide +kernel
theorem d_prog_30_method_2_code_64 : decode prog_30_method_2_code 64 = .ok (.goto 22, 3) := by decide +kernel
set_option maxRecDepth 65536 in
set_option maxHeartbeats 40000000 in
theorem own_lv1 (l : Launch) (Z : State) (a0 : Array Value) (hw : ∀ d ∈ tables_1, d.before a0 Z = true) (b sa : Addr) (cl : Cell) (n0 : Nat) (h0 : Heap) (E : Exa Z h0 b "com/example/join_or_begin/joinorbegin/Isolation") (F : Fld Z h0 b "java/lang/Enum" "ordinal" "I" (.int (1 : Int32))) (SW : Sta Z h0 "com/example/join_or_begin/joinorbegin/jdbc/JdbcIsolation$1" "$SwitchMap$com$example$join_or_begin$joinorbegin$Isolation" "[I" (.ref sa)) (Ar : Arr Z h0 sa cl .int) (SZ : cl.slots.size = (5 : Int32).toNatClampNeg) (el1 : cl.slots[((1 : Int32)).toNatClampNeg]? = some (.int (2 : Int32))) (Z0 : n0 ≤ h0.size) :
    own_Met l Z (⟨"com/example/join_or_begin/joinorbegin/jdbc/JdbcIsolation", "levelOf", "(Lcom/example/join_or_begin/joinorbegin/Isolation;)Ljava/util/OptionalInt;"⟩ : MethodName) [Jvm.Cond.code (⟨"com/example/join_or_begin/joinorbegin/jdbc/JdbcIsolation", "levelOf", "(Lcom/example/join_or_begin/joinorbegin/Isolation;)Ljava/util/OptionalInt;"⟩ : MethodName) prog_30_method_2_code 1 (some (.object "java/util/OptionalInt"))] ({ frames := 3, cells := 1, slots := 2, locals := 39 } : Room) #[(.ref b)] h0 (own_Qf Z (1 : Int32) h0 n0) := by
  refine MetFree.of_bodySF (plainFor_of_name pn_2) hisR ?_
  intro p e s m args below meth c s₁ Bd hml0 hP hK
  obtain ⟨rfl, hZ, hh⟩ := hP
  have hx := Bd.exec
  have hby := Bd.bytes
  have hml : c.maxLocals = 1 := hml0
  have hown : s.vm.findClass "com/example/join_or_begin/joinorbegin/jdbc/JdbcIsolation" = some m.cls := findClass_of_methodNamed Bd.named
  have hnm := (name_of_methodNamed Bd.named Bd.method).1
  have hlk : meth.locks = false := BodyLoose.notSynchronized Bd
  have X0 : Stand p l e ({ frames := 3, cells := 1, slots := 2, locals := 39 } : Room) s m #[(.ref b)] below meth c s₁ [] 0 0 := Stand.of_body Bd
  have e0 : s₁.heap = h0 := by rw [← hh, Bd.state]; rfl
  show own_Go p e below (own_End s (own_Qf Z (1 : Int32) h0 n0) 1 2) s₁ (entryFrame m #[(.ref b)] 1)
  refine own_start (g' := mkF m 0 #[.val (.ref b)] []) (by first | rfl | (simp [entryFrame, mkF, argsToLocals, Value.category, maxLocals]; done)) ?_
  have K : Keep h0 h0 [] := Keep.refl _ _
  have N : Fr n0 [] := Fr.nil _
  obtain ⟨T1, X1, e1, st1⟩ := getS2 X0 hx hZ hown (host := "") (Or.inl (hw _ (List.mem_of_getElem? (i := 8) rfl))) Via.refl e0 SW (g := (mkF m 0 #[.val (.ref b)] [])) rfl (hb hby d_prog_30_method_2_code_0)
  refine own_via (T' := T1) (g' := (mkF m 3 #[.val (.ref b)] [(.ref sa)])) st1 ?_
  refine own_via (T' := T1) (g' := (mkF m 4 #[.val (.ref b)] [(.ref b), (.ref sa)])) (fun t k => XS.aloadN X1.here hx rfl (hb hby d_prog_30_method_2_code_3) rfl rfl k) ?_
  obtain ⟨T2, X2, e2, st2⟩ := own_callU (W := 1) (r := (some (.int (1 : Int32)))) (y := (⟨"com/example/join_or_begin/joinorbegin/Isolation", "ordinal", "()I"⟩ : MethodName)) (z := (⟨"java/lang/Enum", "ordinal", "()I"⟩ : MethodName)) (owner := "java/lang/Enum") X1 hx hZ hown (hw _ (List.mem_of_getElem? (i := 11) rfl)) (hw _ (List.mem_of_getElem? (i := 12) rfl)) (hw _ (List.mem_of_getElem? (i := 13) rfl)) (by decide) (hw _ (List.mem_of_getElem? (i := 15) rfl)) (hw _ (List.mem_of_getElem? (i := 14) rfl)) (hw _ (List.mem_of_getElem? (i := 17) rfl)) (hw _ (List.mem_of_getElem? (i := 16) rfl)) (own_o l Z a0 hw b (1 : Int32) h0 F) e1 E (by decide) (by decide) (by decide) (by decide) (g := (mkF m 4 #[.val (.ref b)] [(.ref b), (.ref sa)])) rfl (by rw [hml]; rfl) (argsL := []) (rest := [(.ref sa)]) (lenOf pd_29 rfl) rfl (by show 2 * 0 + _ ≤ _; exact Nat.le_of_eq rfl) (hb hby d_prog_30_method_2_code_4) rfl
  refine own_via (T' := T2) (g' := (mkF m 7 #[.val (.ref b)] [(.int (1 : Int32)), (.ref sa)])) st2 ?_
  refine own_via (T' := T2) (g' := (mkF m 8 #[.val (.ref b)] [(.int (2 : Int32))])) (fun t k => X2.iaload hx (j := (1 : Int32)) (v := .int (2 : Int32)) (by rw [e2]; exact Ar.1) (State.isArrayOf_alike hZ.alike Ar.2.1) Ar.2.2 (inb_of SZ ⟨by decide, by decide⟩) el1 (g := (mkF m 7 #[.val (.ref b)] [(.int (1 : Int32)), (.ref sa)])) rfl rfl (hb hby d_prog_30_method_2_code_7) t k) ?_
  refine own_via (T' := T2) (g' := (mkF m 60 #[.val (.ref b)] [])) (fun t k => XS.tswIn X2.here hx rfl (pc0 := 8) (pc' := 60) rfl (hb hby d_prog_30_method_2_code_8) rfl (by decide) (o := 52) (by decide) (by decide) (by decide) k) ?_
  refine own_via (T' := T2) (g' := (mkF m 61 #[.val (.ref b)] [(.int (1 : Int32))])) (fun t k => XS.iconst X2.here hx rfl (hb hby d_prog_30_method_2_code_60) k) ?_
  obtain ⟨v3, T3, Lc3, X3, hQ3, st3⟩ := own_callSQ (W := 0) (y := (⟨"java/util/OptionalInt", "of", "(I)Ljava/util/OptionalInt;"⟩ : MethodName)) X2 hx hZ hown (hw _ (List.mem_of_getElem? (i := 34) rfl)) (hw _ (List.mem_of_getElem? (i := 35) rfl)) (hw _ (List.mem_of_getElem? (i := 22) rfl)) (hw _ (List.mem_of_getElem? (i := 36) rfl)) (by decide) (own_of l Z a0 hw (1 : Int32) n0 h0 Z0) e2 (by decide) (by decide) (by decide) (by decide) (g := (mkF m 61 #[.val (.ref b)] [(.int (1 : Int32))])) rfl (by rw [hml]; rfl) (argsL := [(.int (1 : Int32))]) (rest := []) (lenOf pd_39 rfl) rfl (by show 2 * 0 + _ ≤ _; exact Nat.le_of_eq rfl) (hb hby d_prog_30_method_2_code_61) rfl
  obtain ⟨z3, rfl, N3, K3, E3, F3p, F3v⟩ := hQ3
  have K := K.trans K3 all0
  have N := Fr.app N N3
  have E_z := E3
  have F_isPresent_z := F3p
  have F_value_z := F3v
  refine own_via (T' := T3) (g' := (mkF m 64 #[.val (.ref b)] [(.ref z3)])) st3 ?_
  refine own_via (T' := T3) (g' := (mkF m 86 #[.val (.ref b)] [(.ref z3)])) (fun t k => XS.goto X3.here hx rfl (pc0 := 64) (pc' := 86) rfl (hb hby d_prog_30_method_2_code_64) (by decide) (by decide) k) ?_
  exact own_ret (t := (.object "java/util/OptionalInt")) X3 hx Bd.returns hlk rfl (Or.inr (Or.inr (Or.inr (Or.inr ⟨rfl, rfl, rfl⟩)))) (hb hby d_prog_30_method_2_code_86) (by decide) (by decide) ⟨_, rfl, N, K, E_z, F_isPresent_z, F_value_z⟩
theorem d_prog_30_method_2_code_67 : decode prog_30_method_2_code 67 = .ok (.iconst 2, 1) := by decide +kernel
theorem d_prog_30_method_2_code_68 : decode prog_30_method_2_code 68 = .ok (.invokestatic 32, 3) := by decide +kernel
theorem d_prog_30_method_2_code_71 : decode prog_30_method_2_code 71 = .ok (.goto 15, 3) := by decide +kernel
set_option maxRecDepth 65536 in
set_option maxHeartbeats 40000000 in
theorem own_lv2 (l : Launch) (Z : State) (a0 : Array Value) (hw : ∀ d ∈ tables_1, d.before a0 Z = true) (b sa : Addr) (cl : Cell) (n0 : Nat) (h0 : Heap) (E : Exa Z h0 b "com/example/join_or_begin/joinorbegin/Isolation") (F : Fld Z h0 b "java/lang/Enum" "ordinal" "I" (.int (2 : Int32))) (SW : Sta Z h0 "com/example/join_or_begin/joinorbegin/jdbc/JdbcIsolation$1" "$SwitchMap$com$example$join_or_begin$joinorbegin$Isolation" "[I" (.ref sa)) (Ar : Arr Z h0 sa cl .int) (SZ : cl.slots.size = (5 : Int32).toNatClampNeg) (el2 : cl.slots[((2 : Int32)).toNatClampNeg]? = some (.int (3 : Int32))) (Z0 : n0 ≤ h0.size) :
    own_Met l Z (⟨"com/example/join_or_begin/joinorbegin/jdbc/JdbcIsolation", "levelOf", "(Lcom/example/join_or_begin/joinorbegin/Isolation;)Ljava/util/OptionalInt;"⟩ : MethodName) [Jvm.Cond.code (⟨"com/example/join_or_begin/joinorbegin/jdbc/JdbcIsolation", "levelOf", "(Lcom/example/join_or_begin/joinorbegin/Isolation;)Ljava/util/OptionalInt;"⟩ : MethodName) prog_30_method_2_code 1 (some (.object "java/util/OptionalInt"))] ({ frames := 3, cells := 1, slots := 2, locals := 39 } : Room) #[(.ref b)] h0 (own_Qf Z (2 : Int32) h0 n0) := by
  refine MetFree.of_bodySF (plainFor_of_name pn_2) hisR ?_
  intro p e s m args below meth c s₁ Bd hml0 hP hK
  obtain ⟨rfl, hZ, hh⟩ := hP
  have hx := Bd.exec
  have hby := Bd.bytes
  have hml : c.maxLocals = 1 := hml0
  have hown : s.vm.findClass "com/example/join_or_begin/joinorbegin/jdbc/JdbcIsolation" = some m.cls := findClass_of_methodNamed Bd.named
  have hnm := (name_of_methodNamed Bd.named Bd.method).1
  have hlk : meth.locks = false := BodyLoose.notSynchronized Bd
  have X0 : Stand p l e ({ frames := 3, cells := 1, slots := 2, locals := 39 } : Room) s m #[(.ref b)] below meth c s₁ [] 0 0 := Stand.of_body Bd
  have e0 : s₁.heap = h0 := by rw [← hh, Bd.state]; rfl
  show own_Go p e below (own_End s (own_Qf Z (2 : Int32) h0 n0) 1 2) s₁ (entryFrame m #[(.ref b)] 1)
  refine own_start (g' := mkF m 0 #[.val (.ref b)] []) (by first | rfl | (simp [entryFrame, mkF, argsToLocals, Value.category, maxLocals]; done)) ?_
  have K : Keep h0 h0 [] := Keep.refl _ _
  have N : Fr n0 [] := Fr.nil _
  obtain ⟨T1, X1, e1, st1⟩ := getS2 X0 hx hZ hown (host := "") (Or.inl (hw _ (List.mem_of_getElem? (i := 8) rfl))) Via.refl e0 SW (g := (mkF m 0 #[.val (.ref b)] [])) rfl (hb hby d_prog_30_method_2_code_0)
  refine own_via (T' := T1) (g' := (mkF m 3 #[.val (.ref b)] [(.ref sa)])) st1 ?_
  refine own_via (T' := T1) (g' := (mkF m 4 #[.val (.ref b)] [(.ref b), (.ref sa)])) (fun t k => XS.aloadN X1.here hx rfl (hb hby d_prog_30_method_2_code_3) rfl rfl k) ?_
  obtain ⟨T2, X2, e2, st2⟩ := own_callU (W := 1) (r := (some (.int (2 : Int32)))) (y := (⟨"com/example/join_or_begin/joinorbegin/Isolation", "ordinal", "()I"⟩ : MethodName)) (z := (⟨"java/lang/Enum", "ordinal", "()I"⟩ : MethodName)) (owner := "java/lang/Enum") X1 hx hZ hown (hw _ (List.mem_of_getElem? (i := 11) rfl)) (hw _ (List.mem_of_getElem? (i := 12) rfl)) (hw _ (List.mem_of_getElem? (i := 13) rfl)) (by decide) (hw _ (List.mem_of_getElem? (i := 15) rfl)) (hw _ (List.mem_of_getElem? (i := 14) rfl)) (hw _ (List.mem_of_getElem? (i := 17) rfl)) (hw _ (List.mem_of_getElem? (i := 16) rfl)) (own_o l Z a0 hw b (2 : Int32) h0 F) e1 E (by decide) (by decide) (by decide) (by decide) (g := (mkF m 4 #[.val (.ref b)] [(.ref b), (.ref sa)])) rfl (by rw [hml]; rfl) (argsL := []) (rest := [(.ref sa)]) (lenOf pd_29 rfl) rfl (by show 2 * 0 + _ ≤ _; exact Nat.le_of_eq rfl) (hb hby d_prog_30_method_2_code_4) rfl
  refine own_via (T' := T2) (g' := (mkF m 7 #[.val (.ref b)] [(.int (2 : Int32)), (.ref sa)])) st2 ?_
  refine own_via (T' := T2) (g' := (mkF m 8 #[.val (.ref b)] [(.int (3 : Int32))])) (fun t k => X2.iaload hx (j := (2 : Int32)) (v := .int (3 : Int32)) (by rw [e2]; exact Ar.1) (State.isArrayOf_alike hZ.alike Ar.2.1) Ar.2.2 (inb_of SZ ⟨by decide, by decide⟩) el2 (g := (mkF m 7 #[.val (.ref b)] [(.int (2 : Int32)), (.ref sa)])) rfl rfl (hb hby d_prog_30_method_2_code_7) t k) ?_
  refine own_via (T' := T2) (g' := (mkF m 67 #[.val (.ref b)] [])) (fun t k => XS.tswIn X2.here hx rfl (pc0 := 8) (pc' := 67) rfl (hb hby d_prog_30_method_2_code_8) rfl (by decide) (o := 59) (by decide) (by decide) (by decide) k) ?_
  refine own_via (T' := T2) (g' := (mkF m 68 #[.val (.ref b)] [(.int (2 : Int32))])) (fun t k => XS.iconst X2.here hx rfl (hb hby d_prog_30_method_2_code_67) k) ?_
  obtain ⟨v3, T3, Lc3, X3, hQ3, st3⟩ := own_callSQ (W := 0) (y := (⟨"java/util/OptionalInt", "of", "(I)Ljava/util/OptionalInt;"⟩ : MethodName)) X2 hx hZ hown (hw _ (List.mem_of_getElem? (i := 34) rfl)) (hw _ (List.mem_of_getElem? (i := 35) rfl)) (hw _ (List.mem_of_getElem? (i := 22) rfl)) (hw _ (List.mem_of_getElem? (i := 36) rfl)) (by decide) (own_of l Z a0 hw (2 : Int32) n0 h0 Z0) e2 (by decide) (by decide) (by decide) (by decide) (g := (mkF m 68 #[.val (.ref b)] [(.int (2 : Int32))])) rfl (by rw [hml]; rfl) (argsL := [(.int (2 : Int32))]) (rest := []) (lenOf pd_39 rfl) rfl (by show 2 * 0 + _ ≤ _; exact Nat.le_of_eq rfl) (hb hby d_prog_30_method_2_code_68) rfl
  obtain ⟨z3, rfl, N3, K3, E3, F3p, F3v⟩ := hQ3
  have K := K.trans K3 all0
  have N := Fr.app N N3
  have E_z := E3
  have F_isPresent_z := F3p
  have F_value_z := F3v
  refine own_via (T' := T3) (g' := (mkF m 71 #[.val (.ref b)] [(.ref z3)])) st3 ?_
  refine own_via (T' := T3) (g' := (mkF m 86 #[.val (.ref b)] [(.ref z3)])) (fun t k => XS.goto X3.here hx rfl (pc0 := 71) (pc' := 86) rfl (hb hby d_prog_30_method_2_code_71) (by decide) (by decide) k) ?_
  exact own_ret (t := (.object "java/util/OptionalInt")) X3 hx Bd.returns hlk rfl (Or.inr (Or.inr (Or.inr (Or.inr ⟨rfl, rfl, rfl⟩)))) (hb hby d_prog_30_method_2_code_86) (by decide) (by decide) ⟨_, rfl, N, K, E_z, F_isPresent_z, F_value_z⟩
theorem d_prog_30_method_2_code_74 : decode prog_30_method_2_code 74 = .ok (.iconst 4, 1) := by decide +kernel
theorem d_prog_30_method_2_code_75 : decode prog_30_method_2_code 75 = .ok (.invokestatic 32, 3) := by decide +kernel
theorem d_prog_30_method_2_code_78 : decode prog_30_method_2_code 78 = .ok (.goto 8, 3) := by decide +kernel
set_option maxRecDepth 65536 in
set_option maxHeartbeats 40000000 in
theorem own_lv3 (l : Launch) (Z : State) (a0 : Array Value) (hw : ∀ d ∈ tables_1, d.before a0 Z = true) (b sa : Addr) (cl : Cell) (n0 : Nat) (h0 : Heap) (E : Exa Z h0 b "com/example/join_or_begin/joinorbegin/Isolation") (F : Fld Z h0 b "java/lang/Enum" "ordinal" "I" (.int (3 : Int32))) (SW : Sta Z h0 "com/example/join_or_begin/joinorbegin/jdbc/JdbcIsolation$1" "$SwitchMap$com$example$join_or_begin$joinorbegin$Isolation" "[I" (.ref sa)) (Ar : Arr Z h0 sa cl .int) (SZ : cl.slots.size = (5 : Int32).toNatClampNeg) (el3 : cl.slots[((3 : Int32)).toNatClampNeg]? = some (.int (4 : Int32))) (Z0 : n0 ≤ h0.size) :
    own_Met l Z (⟨"com/example/join_or_begin/joinorbegin/jdbc/JdbcIsolation", "levelOf", "(Lcom/example/join_or_begin/joinorbegin/Isolation;)Ljava/util/OptionalInt;"⟩ : MethodName) [Jvm.Cond.code (⟨"com/example/join_or_begin/joinorbegin/jdbc/JdbcIsolation", "levelOf", "(Lcom/example/join_or_begin/joinorbegin/Isolation;)Ljava/util/OptionalInt;"⟩ : MethodName) prog_30_method_2_code 1 (some (.object "java/util/OptionalInt"))] ({ frames := 3, cells := 1, slots := 2, locals := 39 } : Room) #[(.ref b)] h0 (own_Qf Z (4 : Int32) h0 n0) := by
  refine MetFree.of_bodySF (plainFor_of_name pn_2) hisR ?_
  intro p e s m args below meth c s₁ Bd hml0 hP hK
  obtain ⟨rfl, hZ, hh⟩ := hP
  have hx := Bd.exec
  have hby := Bd.bytes
  have hml : c.maxLocals = 1 := hml0
  have hown : s.vm.findClass "com/example/join_or_begin/joinorbegin/jdbc/JdbcIsolation" = some m.cls := findClass_of_methodNamed Bd.named
  have hnm := (name_of_methodNamed Bd.named Bd.method).1
  have hlk : meth.locks = false := BodyLoose.notSynchronized Bd
  have X0 : Stand p l e ({ frames := 3, cells := 1, slots := 2, locals := 39 } : Room) s m #[(.ref b)] below meth c s₁ [] 0 0 := Stand.of_body Bd
  have e0 : s₁.heap = h0 := by rw [← hh, Bd.state]; rfl
  show own_Go p e below (own_End s (own_Qf Z (4 : Int32) h0 n0) 1 2) s₁ (entryFrame m #[(.ref b)] 1)
  refine own_start (g' := mkF m 0 #[.val (.ref b)] []) (by first | rfl | (simp [entryFrame, mkF, argsToLocals, Value.category, maxLocals]; done)) ?_
  have K : Keep h0 h0 [] := Keep.refl _ _
  have N : Fr n0 [] := Fr.nil _
  obtain ⟨T1, X1, e1, st1⟩ := getS2 X0 hx hZ hown (host := "") (Or.inl (hw _ (List.mem_of_getElem? (i := 8) rfl))) Via.refl e0 SW (g := (mkF m 0 #[.val (.ref b)] [])) rfl (hb hby d_prog_30_method_2_code_0)
  refine own_via (T' := T1) (g' := (mkF m 3 #[.val (.ref b)] [(.ref sa)])) st1 ?_
  refine own_via (T' := T1) (g' := (mkF m 4 #[.val (.ref b)] [(.ref b), (.ref sa)])) (fun t k => XS.aloadN X1.here hx rfl (hb hby d_prog_30_method_2_code_3) rfl rfl k) ?_
  obtain ⟨T2, X2, e2, st2⟩ := own_callU (W := 1) (r := (some (.int (3 : Int32)))) (y := (⟨"com/example/join_or_begin/joinorbegin/Isolation", "ordinal", "()I"⟩ : MethodName)) (z := (⟨"java/lang/Enum", "ordinal", "()I"⟩ : MethodName)) (owner := "java/lang/Enum") X1 hx hZ hown (hw _ (List.mem_of_getElem? (i := 11) rfl)) (hw _ (List.mem_of_getElem? (i := 12) rfl)) (hw _ (List.mem_of_getElem? (i := 13) rfl)) (by decide) (hw _ (List.mem_of_getElem? (i := 15) rfl)) (hw _ (List.mem_of_getElem? (i := 14) rfl)) (hw _ (List.mem_of_getElem? (i := 17) rfl)) (hw _ (List.mem_of_getElem? (i := 16) rfl)) (own_o l Z a0 hw b (3 : Int32) h0 F) e1 E (by decide) (by decide) (by decide) (by decide) (g := (mkF m 4 #[.val (.ref b)] [(.ref b), (.ref sa)])) rfl (by rw [hml]; rfl) (argsL := []) (rest := [(.ref sa)]) (lenOf pd_29 rfl) rfl (by show 2 * 0 + _ ≤ _; exact Nat.le_of_eq rfl) (hb hby d_prog_30_method_2_code_4) rfl
  refine own_via (T' := T2) (g' := (mkF m 7 #[.val (.ref b)] [(.int (3 : Int32)), (.ref sa)])) st2 ?_
  refine own_via (T' := T2) (g' := (mkF m 8 #[.val (.ref b)] [(.int (4 : Int32))])) (fun t k => X2.iaload hx (j := (3 : Int32)) (v := .int (4 : Int32)) (by rw [e2]; exact Ar.1) (State.isArrayOf_alike hZ.alike Ar.2.1) Ar.2.2 (inb_of SZ ⟨by decide, by decide⟩) el3 (g := (mkF m 7 #[.val (.ref b)] [(.int (3 : Int32)), (.ref sa)])) rfl rfl (hb hby d_prog_30_method_2_code_7) t k) ?_
  refine own_via (T' := T2) (g' := (mkF m 74 #[.val (.ref b)] [])) (fun t k => XS.tswIn X2.here hx rfl (pc0 := 8) (pc' := 74) rfl (hb hby d_prog_30_method_2_code_8) rfl (by decide) (o := 66) (by decide) (by decide) (by decide) k) ?_
  refine own_via (T' := T2) (g' := (mkF m 75 #[.val (.ref b)] [(.int (4 : Int32))])) (fun t k => XS.iconst X2.here hx rfl (hb hby d_prog_30_method_2_code_74) k) ?_
  obtain ⟨v3, T3, Lc3, X3, hQ3, st3⟩ := own_callSQ (W := 0) (y := (⟨"java/util/OptionalInt", "of", "(I)Ljava/util/OptionalInt;"⟩ : MethodName)) X2 hx hZ hown (hw _ (List.mem_of_getElem? (i := 34) rfl)) (hw _ (List.mem_of_getElem? (i := 35) rfl)) (hw _ (List.mem_of_getElem? (i := 22) rfl)) (hw _ (List.mem_of_getElem? (i := 36) rfl)) (by decide) (own_of l Z a0 hw (4 : Int32) n0 h0 Z0) e2 (by decide) (by decide) (by decide) (by decide) (g := (mkF m 75 #[.val (.ref b)] [(.int (4 : Int32))])) rfl (by rw [hml]; rfl) (argsL := [(.int (4 : Int32))]) (rest := []) (lenOf pd_39 rfl) rfl (by show 2 * 0 + _ ≤ _; exact Nat.le_of_eq rfl) (hb hby d_prog_30_method_2_code_75) rfl
  obtain ⟨z3, rfl, N3, K3, E3, F3p, F3v⟩ := hQ3
  have K := K.trans K3 all0
  have N := Fr.app N N3
  have E_z := E3
  have F_isPresent_z := F3p
  have F_value_z := F3v
  refine own_via (T' := T3) (g' := (mkF m 78 #[.val (.ref b)] [(.ref z3)])) st3 ?_
  refine own_via (T' := T3) (g' := (mkF m 86 #[.val (.ref b)] [(.ref z3)])) (fun t k => XS.goto X3.here hx rfl (pc0 := 78) (pc' := 86) rfl (hb hby d_prog_30_method_2_code_78) (by decide) (by decide) k) ?_
  exact own_ret (t := (.object "java/util/OptionalInt")) X3 hx Bd.returns hlk rfl (Or.inr (Or.inr (Or.inr (Or.inr ⟨rfl, rfl, rfl⟩)))) (hb hby d_prog_30_method_2_code_86) (by decide) (by decide) ⟨_, rfl, N, K, E_z, F_isPresent_z, F_value_z⟩
theorem d_prog_30_method_2_code_81 : decode prog_30_method_2_code 81 = .ok (.bipush 8, 2) := by decide +kernel
theorem d_prog_30_method_2_code_83 : decode prog_30_method_2_code 83 = .ok (.invokestatic 32, 3) := by decide +kernel
set_option maxRecDepth 65536 in
set_option maxHeartbeats 40000000 in
theorem own_lv4 (l : Launch) (Z : State) (a0 : Array Value) (hw : ∀ d ∈ tables_1, d.before a0 Z = true) (b sa : Addr) (cl : Cell) (n0 : Nat) (h0 : Heap) (E : Exa Z h0 b "com/example/join_or_begin/joinorbegin/Isolation") (F : Fld Z h0 b "java/lang/Enum" "ordinal" "I" (.int (4 : Int32))) (SW : Sta Z h0 "com/example/join_or_begin/joinorbegin/jdbc/JdbcIsolation$1" "$SwitchMap$com$example$join_or_begin$joinorbegin$Isolation" "[I" (.ref sa)) (Ar : Arr Z h0 sa cl .int) (SZ : cl.slots.size = (5 : Int32).toNatClampNeg) (el4 : cl.slots[((4 : Int32)).toNatClampNeg]? = some (.int (5 : Int32))) (Z0 : n0 ≤ h0.size) :
    own_Met l Z (⟨"com/example/join_or_begin/joinorbegin/jdbc/JdbcIsolation", "levelOf", "(Lcom/example/join_or_begin/joinorbegin/Isolation;)Ljava/util/OptionalInt;"⟩ : MethodName) [Jvm.Cond.code (⟨"com/example/join_or_begin/joinorbegin/jdbc/JdbcIsolation", "levelOf", "(Lcom/example/join_or_begin/joinorbegin/Isolation;)Ljava/util/OptionalInt;"⟩ : MethodName) prog_30_method_2_code 1 (some (.object "java/util/OptionalInt"))] ({ frames := 3, cells := 1, slots := 2, locals := 39 } : Room) #[(.ref b)] h0 (own_Qf Z (8 : Int32) h0 n0) := by
  refine MetFree.of_bodySF (plainFor_of_name pn_2) hisR ?_
  intro p e s m args below meth c s₁ Bd hml0 hP hK
  obtain ⟨rfl, hZ, hh⟩ := hP
  have hx := Bd.exec
  have hby := Bd.bytes
  have hml : c.maxLocals = 1 := hml0
  have hown : s.vm.findClass "com/example/join_or_begin/joinorbegin/jdbc/JdbcIsolation" = some m.cls := findClass_of_methodNamed Bd.named
  have hnm := (name_of_methodNamed Bd.named Bd.method).1
  have hlk : meth.locks = false := BodyLoose.notSynchronized Bd
  have X0 : Stand p l e ({ frames := 3, cells := 1, slots := 2, locals := 39 } : Room) s m #[(.ref b)] below meth c s₁ [] 0 0 := Stand.of_body Bd
  have e0 : s₁.heap = h0 := by rw [← hh, Bd.state]; rfl
  show own_Go p e below (own_End s (own_Qf Z (8 : Int32) h0 n0) 1 2) s₁ (entryFrame m #[(.ref b)] 1)
  refine own_start (g' := mkF m 0 #[.val (.ref b)] []) (by first | rfl | (simp [entryFrame, mkF, argsToLocals, Value.category, maxLocals]; done)) ?_
  have K : Keep h0 h0 [] := Keep.refl _ _
  have N : Fr n0 [] := Fr.nil _
  obtain ⟨T1, X1, e1, st1⟩ := getS2 X0 hx hZ hown (host := "") (Or.inl (hw _ (List.mem_of_getElem? (i := 8) rfl))) Via.refl e0 SW (g := (mkF m 0 #[.val (.ref b)] [])) rfl (hb hby d_prog_30_method_2_code_0)
  refine own_via (T' := T1) (g' := (mkF m 3 #[.val (.ref b)] [(.ref sa)])) st1 ?_
  refine own_via (T' := T1) (g' := (mkF m 4 #[.val (.ref b)] [(.ref b), (.ref sa)])) (fun t k => XS.aloadN X1.here hx rfl (hb hby d_prog_30_method_2_code_3) rfl rfl k) ?_
  obtain ⟨T2, X2, e2, st2⟩ := own_callU (W := 1) (r := (some (.int (4 : Int32)))) (y := (⟨"com/example/join_or_begin/joinorbegin/Isolation", "ordinal", "()I"⟩ : MethodName)) (z := (⟨"java/lang/Enum", "ordinal", "()I"⟩ : MethodName)) (owner := "java/lang/Enum") X1 hx hZ hown (hw _ (List.mem_of_getElem? (i := 11) rfl)) (hw _ (List.mem_of_getElem? (i := 12) rfl)) (hw _ (List.mem_of_getElem? (i := 13) rfl)) (by decide) (hw _ (List.mem_of_getElem? (i := 15) rfl)) (hw _ (List.mem_of_getElem? (i := 14) rfl)) (hw _ (List.mem_of_getElem? (i := 17) rfl)) (hw _ (List.mem_of_getElem? (i := 16) rfl)) (own_o l Z a0 hw b (4 : Int32) h0 F) e1 E (by decide) (by decide) (by decide) (by decide) (g := (mkF m 4 #[.val (.ref b)] [(.ref b), (.ref sa)])) rfl (by rw [hml]; rfl) (argsL := []) (rest := [(.ref sa)]) (lenOf pd_29 rfl) rfl (by show 2 * 0 + _ ≤ _; exact Nat.le_of_eq rfl) (hb hby d_prog_30_method_2_code_4) rfl
  refine own_via (T' := T2) (g' := (mkF m 7 #[.val (.ref b)] [(.int (4 : Int32)), (.ref sa)])) st2 ?_
  refine own_via (T' := T2) (g' := (mkF m 8 #[.val (.ref b)] [(.int (5 : Int32))])) (fun t k => X2.iaload hx (j := (4 : Int32)) (v := .int (5 : Int32)) (by rw [e2]; exact Ar.1) (State.isArrayOf_alike hZ.alike Ar.2.1) Ar.2.2 (inb_of SZ ⟨by decide, by decide⟩) el4 (g := (mkF m 7 #[.val (.ref b)] [(.int (4 : Int32)), (.ref sa)])) rfl rfl (hb hby d_prog_30_method_2_code_7) t k) ?_
  refine own_via (T' := T2) (g' := (mkF m 81 #[.val (.ref b)] [])) (fun t k => XS.tswIn X2.here hx rfl (pc0 := 8) (pc' := 81) rfl (hb hby d_prog_30_method_2_code_8) rfl (by decide) (o := 73) (by decide) (by decide) (by decide) k) ?_
  refine own_via (T' := T2) (g' := (mkF m 83 #[.val (.ref b)] [(.int (8 : Int32))])) (fun t k => XS.bipush X2.here hx rfl (hb hby d_prog_30_method_2_code_81) k) ?_
  obtain ⟨v3, T3, Lc3, X3, hQ3, st3⟩ := own_callSQ (W := 0) (y := (⟨"java/util/OptionalInt", "of", "(I)Ljava/util/OptionalInt;"⟩ : MethodName)) X2 hx hZ hown (hw _ (List.mem_of_getElem? (i := 34) rfl)) (hw _ (List.mem_of_getElem? (i := 35) rfl)) (hw _ (List.mem_of_getElem? (i := 22) rfl)) (hw _ (List.mem_of_getElem? (i := 36) rfl)) (by decide) (own_of l Z a0 hw (8 : Int32) n0 h0 Z0) e2 (by decide) (by decide) (by decide) (by decide) (g := (mkF m 83 #[.val (.ref b)] [(.int (8 : Int32))])) rfl (by rw [hml]; rfl) (argsL := [(.int (8 : Int32))]) (rest := []) (lenOf pd_39 rfl) rfl (by show 2 * 0 + _ ≤ _; exact Nat.le_of_eq rfl) (hb hby d_prog_30_method_2_code_83) rfl
  obtain ⟨z3, rfl, N3, K3, E3, F3p, F3v⟩ := hQ3
  have K := K.trans K3 all0
  have N := Fr.app N N3
  have E_z := E3
  have F_isPresent_z := F3p
  have F_value_z := F3v
  refine own_via (T' := T3) (g' := (mkF m 86 #[.val (.ref b)] [(.ref z3)])) st3 ?_
  exact own_ret (t := (.object "java/util/OptionalInt")) X3 hx Bd.returns hlk rfl (Or.inr (Or.inr (Or.inr (Or.inr ⟨rfl, rfl, rfl⟩)))) (hb hby d_prog_30_method_2_code_86) (by decide) (by decide) ⟨_, rfl, N, K, E_z, F_isPresent_z, F_value_z⟩
theorem own_mod5 (x k : Int32) (hk : (x &&& (2147483647 : Int32)) % (5 : Int32) = k) : k = 0 ∨ k = 1 ∨ k = 2 ∨ k = 3 ∨ k = 4 := by
  have h1 := c_mask x 2147483647 31 (by decide) (by decide)
  have h2 := (c_irem (x &&& 2147483647) 5 5 (by decide)).1 (by rw [h1]; omega)
  rw [hk] at h2
  have h3 : k.toInt = 0 ∨ k.toInt = 1 ∨ k.toInt = 2 ∨ k.toInt = 3 ∨ k.toInt = 4 := by omega
  rcases h3 with h | h | h | h | h
  · exact Or.inl (Int32.toInt_inj.mp (by rw [h]; decide))
  · exact Or.inr (Or.inl (Int32.toInt_inj.mp (by rw [h]; decide)))
  · exact Or.inr (Or.inr (Or.inl (Int32.toInt_inj.mp (by rw [h]; decide))))
  · exact Or.inr (Or.inr (Or.inr (Or.inl (Int32.toInt_inj.mp (by rw [h]; decide)))))
  · exact Or.inr (Or.inr (Or.inr (Or.inr (Int32.toInt_inj.mp (by rw [h]; decide)))))
theorem pn_3 : plainName "com/example/join_or_begin/joinorbegin/jdbc/JdbcIsolationLevelOfPinLaw" = true := by first | (simp [plainName, overriddenIn]; done) | decide +kernel
theorem pd_51 : parseMethodDescriptor "(Lcom/example/join_or_begin/joinorbegin/Isolation;)Ljava/util/OptionalInt;" = some ⟨[(.object "com/example/join_or_begin/joinorbegin/Isolation")], some (.object "java/util/OptionalInt")⟩ := by decide +kernel
theorem pd_52 : parseMethodDescriptor "()Z" = some ⟨[], some .boolean⟩ := by decide +kernel
set_option maxRecDepth 65536 in
set_option maxHeartbeats 40000000 in
theorem own_c0 (l : Launch) (Z : State) (a0 : Array Value) (hw : ∀ d ∈ tables_1, d.before a0 Z = true) (p1 : Int32) (w_DEFAULT w_READ_UNCOMMITTED w_READ_COMMITTED w_REPEATABLE_READ w_SERIALIZABLE wE sa : Addr) (cl : Cell) (h0 : Heap) (S_DEFAULT : Sta Z h0 "com/example/join_or_begin/joinorbegin/Isolation" "DEFAULT" "Lcom/example/join_or_begin/joinorbegin/Isolation;" (.ref w_DEFAULT)) (E_DEFAULT : Exa Z h0 w_DEFAULT "com/example/join_or_begin/joinorbegin/Isolation") (O_DEFAULT : Fld Z h0 w_DEFAULT "java/lang/Enum" "ordinal" "I" (.int (0 : Int32))) (S_READ_UNCOMMITTED : Sta Z h0 "com/example/join_or_begin/joinorbegin/Isolation" "READ_UNCOMMITTED" "Lcom/example/join_or_begin/joinorbegin/Isolation;" (.ref w_READ_UNCOMMITTED)) (E_READ_UNCOMMITTED : Exa Z h0 w_READ_UNCOMMITTED "com/example/join_or_begin/joinorbegin/Isolation") (O_READ_UNCOMMITTED : Fld Z h0 w_READ_UNCOMMITTED "java/lang/Enum" "ordinal" "I" (.int (1 : Int32))) (S_READ_COMMITTED : Sta Z h0 "com/example/join_or_begin/joinorbegin/Isolation" "READ_COMMITTED" "Lcom/example/join_or_begin/joinorbegin/Isolation;" (.ref w_READ_COMMITTED)) (E_READ_COMMITTED : Exa Z h0 w_READ_COMMITTED "com/example/join_or_begin/joinorbegin/Isolation") (O_READ_COMMITTED : Fld Z h0 w_READ_COMMITTED "java/lang/Enum" "ordinal" "I" (.int (2 : Int32))) (S_REPEATABLE_READ : Sta Z h0 "com/example/join_or_begin/joinorbegin/Isolation" "REPEATABLE_READ" "Lcom/example/join_or_begin/joinorbegin/Isolation;" (.ref w_REPEATABLE_READ)) (E_REPEATABLE_READ : Exa Z h0 w_REPEATABLE_READ "com/example/join_or_begin/joinorbegin/Isolation") (O_REPEATABLE_READ : Fld Z h0 w_REPEATABLE_READ "java/lang/Enum" "ordinal" "I" (.int (3 : Int32))) (S_SERIALIZABLE : Sta Z h0 "com/example/join_or_begin/joinorbegin/Isolation" "SERIALIZABLE" "Lcom/example/join_or_begin/joinorbegin/Isolation;" (.ref w_SERIALIZABLE)) (E_SERIALIZABLE : Exa Z h0 w_SERIALIZABLE "com/example/join_or_begin/joinorbegin/Isolation") (O_SERIALIZABLE : Fld Z h0 w_SERIALIZABLE "java/lang/Enum" "ordinal" "I" (.int (4 : Int32))) (SE : Sta Z h0 "java/util/OptionalInt" "EMPTY" "Ljava/util/OptionalInt;" (.ref wE)) (EE : Exa Z h0 wE "java/util/OptionalInt") (FE : Fld Z h0 wE "java/util/OptionalInt" "isPresent" "Z" (.int (0 : Int32))) (SW : Sta Z h0 "com/example/join_or_begin/joinorbegin/jdbc/JdbcIsolation$1" "$SwitchMap$com$example$join_or_begin$joinorbegin$Isolation" "[I" (.ref sa)) (Ar : Arr Z h0 sa cl .int) (SZ : cl.slots.size = (5 : Int32).toNatClampNeg) (el0 : cl.slots[((0 : Int32)).toNatClampNeg]? = some (.int (1 : Int32))) (el1 : cl.slots[((1 : Int32)).toNatClampNeg]? = some (.int (2 : Int32))) (el2 : cl.slots[((2 : Int32)).toNatClampNeg]? = some (.int (3 : Int32))) (el3 : cl.slots[((3 : Int32)).toNatClampNeg]? = some (.int (4 : Int32))) (el4 : cl.slots[((4 : Int32)).toNatClampNeg]? = some (.int (5 : Int32))) :
    own_Met l Z x (Jvm.Cond.code x code maxLocals ret :: tables_1) room_1 #[(.int p1)] h0 (own_F (some (.int 1)) h0.size) := by
  refine MetFree.of_bodySF (plainFor_of_name pn_3) hisR ?_
  intro p e s m args below meth c s₁ Bd hml0 hP hK
  obtain ⟨rfl, hZ, hh⟩ := hP
  have hx := Bd.exec
  have hby := Bd.bytes
  have hml : c.maxLocals = 5 := hml0
  have hown : s.vm.findClass "com/example/join_or_begin/joinorbegin/jdbc/JdbcIsolationLevelOfPinLaw" = some m.cls := findClass_of_methodNamed Bd.named
  have hnm := (name_of_methodNamed Bd.named Bd.method).1
  have hlk : meth.locks = false := BodyLoose.notSynchronized Bd
  have X0 : Stand p l e room_1 s m #[(.int p1)] below meth c s₁ [] 0 0 := Stand.of_body Bd
  have e0 : s₁.heap = h0 := by rw [← hh, Bd.state]; rfl
  show own_Go p e below (own_End s (own_F (some (.int 1)) h0.size) 16 128) s₁ (entryFrame m #[(.int p1)] maxLocals)
  refine own_start (g' := mkF m 0 #[.val (.int p1), .unset, .unset, .unset, .unset] []) (by first | rfl | (simp [entryFrame, mkF, argsToLocals, Value.category, maxLocals]; done)) ?_
  have K : Keep h0 h0 [] := Keep.refl _ _
  have N : Fr h0.size [] := Fr.nil _
  refine own_via (T' := s₁) (g' := (mkF m 1 #[.val (.int p1), .unset, .unset, .unset, .unset] [(.int p1)])) (fun t k => XS.iloadN X0.here hx rfl (hb hby at_0) rfl k) ?_
  refine own_via (T' := s₁) (g' := (mkF m 3 #[.val (.int p1), .unset, .unset, .unset, .unset] [(.int (2147483647 : Int32)), (.int p1)])) (fun t k => Stand.ldcI (g := (mkF m 1 #[.val (.int p1), .unset, .unset, .unset, .unset] [(.int p1)])) X0 hx hown (mvT hZ (hw _ (List.mem_of_getElem? (i := 0) rfl))) rfl (hb hby at_1) k) ?_
  refine own_via (T' := s₁) (g' := (mkF m 4 #[.val (.int p1), .unset, .unset, .unset, .unset] [(.int (p1 &&& (2147483647 : Int32)))])) (fun t k => XS.iand X0.here hx rfl (hb hby at_3) rfl k) ?_
  refine own_via (T' := s₁) (g' := (mkF m 5 #[.val (.int p1), .unset, .unset, .unset, .unset] [(.int (5 : Int32)), (.int (p1 &&& (2147483647 : Int32)))])) (fun t k => XS.iconst X0.here hx rfl (hb hby at_4) k) ?_
  refine own_via (T' := s₁) (g' := (mkF m 6 #[.val (.int p1), .unset, .unset, .unset, .unset] [(.int ((p1 &&& (2147483647 : Int32)) % (5 : Int32)))])) (fun t k => iremM X0 hx rfl (hb hby at_5) rfl (by decide) k) ?_
  generalize hi : ((p1 &&& (2147483647 : Int32)) % (5 : Int32)) = i
  rcases own_mod5 p1 i hi with rfl | rfl | rfl | rfl | rfl
  · refine own_via (T' := s₁) (g' := (mkF m 7 #[.val (.int p1), .val (.int (0 : Int32)), .unset, .unset, .unset] [])) (fun t k => XS.istoreN X0.here hx rfl (hb hby at_6) rfl (l' := #[.val (.int p1), .val (.int (0 : Int32)), .unset, .unset, .unset]) rfl k) ?_
    refine own_via (T' := s₁) (g' := (mkF m 8 #[.val (.int p1), .val (.int (0 : Int32)), .unset, .unset, .unset] [(.int (0 : Int32))])) (fun t k => XS.iloadN X0.here hx rfl (hb hby at_7) rfl k) ?_
    refine own_via (T' := s₁) (g' := (mkF m 11 #[.val (.int p1), .val (.int (0 : Int32)), .unset, .unset, .unset] [])) (fun t k => XS.ifNo X0.here hx rfl (hb hby at_8) rfl ((if0 _ _).trans (teq rfl).2) k) ?_
    obtain ⟨T1, X1, e1, st1⟩ := getS2 X0 hx hZ hown (host := "") (Or.inl (hw _ (List.mem_of_getElem? (i := 1) rfl))) Via.refl e0 S_DEFAULT (g := (mkF m 11 #[.val (.int p1), .val (.int (0 : Int32)), .unset, .unset, .unset] [])) rfl (hb hby at_11)
    refine own_via (T' := T1) (g' := (mkF m 14 #[.val (.int p1), .val (.int (0 : Int32)), .unset, .unset, .unset] [(.ref w_DEFAULT)])) st1 ?_
    refine own_via (T' := T1) (g' := (mkF m 15 #[.val (.int p1), .val (.int (0 : Int32)), .val (.ref w_DEFAULT), .unset, .unset] [])) (fun t k => XS.astoreN X1.here hx rfl (hb hby at_14) rfl rfl (l' := #[.val (.int p1), .val (.int (0 : Int32)), .val (.ref w_DEFAULT), .unset, .unset]) rfl k) ?_
    refine own_via (T' := T1) (g' := (mkF m 16 #[.val (.int p1), .val (.int (0 : Int32)), .val (.ref w_DEFAULT), .unset, .unset] [(.int (-1 : Int32))])) (fun t k => XS.iconst X1.here hx rfl (hb hby at_15) k) ?_
    refine own_via (T' := T1) (g' := (mkF m 17 #[.val (.int p1), .val (.int (0 : Int32)), .val (.ref w_DEFAULT), .val (.int (-1 : Int32)), .unset] [])) (fun t k => XS.istoreN X1.here hx rfl (hb hby at_16) rfl (l' := #[.val (.int p1), .val (.int (0 : Int32)), .val (.ref w_DEFAULT), .val (.int (-1 : Int32)), .unset]) rfl k) ?_
    refine own_via (T' := T1) (g' := (mkF m 69 #[.val (.int p1), .val (.int (0 : Int32)), .val (.ref w_DEFAULT), .val (.int (-1 : Int32)), .unset] [])) (fun t k => XS.goto X1.here hx rfl (pc0 := 17) (pc' := 69) rfl (hb hby at_17) (by decide) (by decide) k) ?_
    refine own_via (T' := T1) (g' := (mkF m 70 #[.val (.int p1), .val (.int (0 : Int32)), .val (.ref w_DEFAULT), .val (.int (-1 : Int32)), .unset] [(.ref w_DEFAULT)])) (fun t k => XS.aloadN X1.here hx rfl (hb hby at_69) rfl rfl k) ?_
    obtain ⟨T2, X2, e2, st2⟩ := own_callS (W := 0) (r := (some (.ref wE))) (y := (⟨"com/example/join_or_begin/joinorbegin/jdbc/JdbcIsolation", "levelOf", "(Lcom/example/join_or_begin/joinorbegin/Isolation;)Ljava/util/OptionalInt;"⟩ : MethodName)) X1 hx hZ hown (hw _ (List.mem_of_getElem? (i := 4) rfl)) (hw _ (List.mem_of_getElem? (i := 5) rfl)) (hw _ (List.mem_of_getElem? (i := 6) rfl)) (hw _ (List.mem_of_getElem? (i := 7) rfl)) (by decide) (own_lv0 l Z a0 hw w_DEFAULT sa cl wE h0 E_DEFAULT O_DEFAULT SW Ar SZ el0 SE) e1 (by decide) (by decide) (by decide) (by decide) (g := (mkF m 70 #[.val (.int p1), .val (.int (0 : Int32)), .val (.ref w_DEFAULT), .val (.int (-1 : Int32)), .unset] [(.ref w_DEFAULT)])) rfl (by rw [hml]; rfl) (argsL := [(.ref w_DEFAULT)]) (rest := []) (lenOf pd_51 rfl) rfl (by show 2 * 0 + _ ≤ _; exact Nat.le_of_eq rfl) (hb hby at_70) rfl
    refine own_via (T' := T2) (g' := (mkF m 73 #[.val (.int p1), .val (.int (0 : Int32)), .val (.ref w_DEFAULT), .val (.int (-1 : Int32)), .unset] [(.ref wE)])) st2 ?_
    refine own_via (T' := T2) (g' := (mkF m 75 #[.val (.int p1), .val (.int (0 : Int32)), .val (.ref w_DEFAULT), .val (.int (-1 : Int32)), .val (.ref wE)] [])) (fun t k => XS.astore X2.here hx rfl (hb hby at_73) rfl rfl (l' := #[.val (.int p1), .val (.int (0 : Int32)), .val (.ref w_DEFAULT), .val (.int (-1 : Int32)), .val (.ref wE)]) rfl k) ?_
    refine own_via (T' := T2) (g' := (mkF m 76 #[.val (.int p1), .val (.int (0 : Int32)), .val (.ref w_DEFAULT), .val (.int (-1 : Int32)), .val (.ref wE)] [(.int (-1 : Int32))])) (fun t k => XS.iloadN X2.here hx rfl (hb hby at_75) rfl k) ?_
    refine own_via (T' := T2) (g' := (mkF m 79 #[.val (.int p1), .val (.int (0 : Int32)), .val (.ref w_DEFAULT), .val (.int (-1 : Int32)), .val (.ref wE)] [])) (fun t k => XS.ifNo X2.here hx rfl (hb hby at_76) rfl ((if0 _ _).trans (tlt (by decide)).2.1) k) ?_
    refine own_via (T' := T2) (g' := (mkF m 81 #[.val (.int p1), .val (.int (0 : Int32)), .val (.ref w_DEFAULT), .val (.int (-1 : Int32)), .val (.ref wE)] [(.ref wE)])) (fun t k => XS.aload X2.here hx rfl (hb hby at_79) rfl rfl k) ?_
    obtain ⟨T3, X3, e3, st3⟩ := own_callV (W := 0) (r := (some (.int (0 : Int32)))) (y := (⟨"java/util/OptionalInt", "isPresent", "()Z"⟩ : MethodName)) (z := (⟨"java/util/OptionalInt", "isPresent", "()Z"⟩ : MethodName)) X2 hx hZ hown (hw _ (List.mem_of_getElem? (i := 25) rfl)) (hw _ (List.mem_of_getElem? (i := 26) rfl)) (notFace_of_selects (args := #[]) (mvT hZ (hw _ (List.mem_of_getElem? (i := 28) rfl)))) (hw _ (List.mem_of_getElem? (i := 28) rfl)) (hw _ (List.mem_of_getElem? (i := 27) rfl)) (by decide) (hw _ (List.mem_of_getElem? (i := 29) rfl)) (hw _ (List.mem_of_getElem? (i := 22) rfl)) (own_ip0 l Z a0 hw wE h0 FE) e2 EE (by decide) (by decide) (by decide) (by decide) (g := (mkF m 81 #[.val (.int p1), .val (.int (0 : Int32)), .val (.ref w_DEFAULT), .val (.int (-1 : Int32)), .val (.ref wE)] [(.ref wE)])) rfl (by rw [hml]; rfl) (argsL := []) (rest := []) (lenOf pd_52 rfl) rfl (by show 2 * 0 + _ ≤ _; exact Nat.le_of_eq rfl) (hb hby at_81) rfl
    refine own_via (T' := T3) (g' := (mkF m 84 #[.val (.int p1), .val (.int (0 : Int32)), .val (.ref w_DEFAULT), .val (.int (-1 : Int32)), .val (.ref wE)] [(.int (0 : Int32))])) st3 ?_
    refine own_via (T' := T3) (g' := (mkF m 87 #[.val (.int p1), .val (.int (0 : Int32)), .val (.ref w_DEFAULT), .val (.int (-1 : Int32)), .val (.ref wE)] [])) (fun t k => XS.ifNo X3.here hx rfl (hb hby at_84) rfl ((if0 _ _).trans (teq rfl).2) k) ?_
    refine own_via (T' := T3) (g' := (mkF m 88 #[.val (.int p1), .val (.int (0 : Int32)), .val (.ref w_DEFAULT), .val (.int (-1 : Int32)), .val (.ref wE)] [(.int (1 : Int32))])) (fun t k => XS.iconst X3.here hx rfl (hb hby at_87) k) ?_
    refine own_via (T' := T3) (g' := (mkF m 92 #[.val (.int p1), .val (.int (0 : Int32)), .val (.ref w_DEFAULT), .val (.int (-1 : Int32)), .val (.ref wE)] [(.int (1 : Int32))])) (fun t k => XS.goto X3.here hx rfl (pc0 := 88) (pc' := 92) rfl (hb hby at_88) (by decide) (by decide) k) ?_
    exact own_ret (t := .boolean) X3 hx Bd.returns hlk rfl (Or.inl ⟨rfl, by simp, _, rfl⟩) (hb hby at_92) (by decide) (by decide) ⟨rfl, N⟩
  · refine own_via (T' := s₁) (g' := (mkF m 7 #[.val (.int p1), .val (.int (1 : Int32)), .unset, .unset, .unset] [])) (fun t k => XS.istoreN X0.here hx rfl (hb hby at_6) rfl (l' := #[.val (.int p1), .val (.int (1 : Int32)), .unset, .unset, .unset]) rfl k) ?_
    refine own_via (T' := s₁) (g' := (mkF m 8 #[.val (.int p1), .val (.int (1 : Int32)), .unset, .unset, .unset] [(.int (1 : Int32))])) (fun t k => XS.iloadN X0.here hx rfl (hb hby at_7) rfl k) ?_
    refine own_via (T' := s₁) (g' := (mkF m 20 #[.val (.int p1), .val (.int (1 : Int32)), .unset, .unset, .unset] [])) (fun t k => XS.ifYes X0.here hx rfl (pc0 := 8) (pc' := 20) rfl (hb hby at_8) rfl ((if0 _ _).trans (feq (by decide)).2) (by decide) (by decide) k) ?_
    refine own_via (T' := s₁) (g' := (mkF m 21 #[.val (.int p1), .val (.int (1 : Int32)), .unset, .unset, .unset] [(.int (1 : Int32))])) (fun t k => XS.iloadN X0.here hx rfl (hb hby at_20) rfl k) ?_
    refine own_via (T' := s₁) (g' := (mkF m 22 #[.val (.int p1), .val (.int (1 : Int32)), .unset, .unset, .unset] [(.int (1 : Int32)), (.int (1 : Int32))])) (fun t k => XS.iconst X0.here hx rfl (hb hby at_21) k) ?_
    refine own_via (T' := s₁) (g' := (mkF m 25 #[.val (.int p1), .val (.int (1 : Int32)), .unset, .unset, .unset] [])) (fun t k => XS.icmpNo X0.here hx rfl (hb hby at_22) rfl (teq rfl).2 k) ?_
    obtain ⟨T4, X4, e4, st4⟩ := getS2 X0 hx hZ hown (host := "") (Or.inl (hw _ (List.mem_of_getElem? (i := 53) rfl))) Via.refl e0 S_READ_UNCOMMITTED (g := (mkF m 25 #[.val (.int p1), .val (.int (1 : Int32)), .unset, .unset, .unset] [])) rfl (hb hby at_25)
    refine own_via (T' := T4) (g' := (mkF m 28 #[.val (.int p1), .val (.int (1 : Int32)), .unset, .unset, .unset] [(.ref w_READ_UNCOMMITTED)])) st4 ?_
    refine own_via (T' := T4) (g' := (mkF m 29 #[.val (.int p1), .val (.int (1 : Int32)), .val (.ref w_READ_UNCOMMITTED), .unset, .unset] [])) (fun t k => XS.astoreN X4.here hx rfl (hb hby at_28) rfl rfl (l' := #[.val (.int p1), .val (.int (1 : Int32)), .val (.ref w_READ_UNCOMMITTED), .unset, .unset]) rfl k) ?_
    refine own_via (T' := T4) (g' := (mkF m 30 #[.val (.int p1), .val (.int (1 : Int32)), .val (.ref w_READ_UNCOMMITTED), .unset, .unset] [(.int (1 : Int32))])) (fun t k => XS.iconst X4.here hx rfl (hb hby at_29) k) ?_
    refine own_via (T' := T4) (g' := (mkF m 31 #[.val (.int p1), .val (.int (1 : Int32)), .val (.ref w_READ_UNCOMMITTED), .val (.int (1 : Int32)), .unset] [])) (fun t k => XS.istoreN X4.here hx rfl (hb hby at_30) rfl (l' := #[.val (.int p1), .val (.int (1 : Int32)), .val (.ref w_READ_UNCOMMITTED), .val (.int (1 : Int32)), .unset]) rfl k) ?_
    refine own_via (T' := T4) (g' := (mkF m 69 #[.val (.int p1), .val (.int (1 : Int32)), .val (.ref w_READ_UNCOMMITTED), .val (.int (1 : Int32)), .unset] [])) (fun t k => XS.goto X4.here hx rfl (pc0 := 31) (pc' := 69) rfl (hb hby at_31) (by decide) (by decide) k) ?_
    refine own_via (T' := T4) (g' := (mkF m 70 #[.val (.int p1), .val (.int (1 : Int32)), .val (.ref w_READ_UNCOMMITTED), .val (.int (1 : Int32)), .unset] [(.ref w_READ_UNCOMMITTED)])) (fun t k => XS.aloadN X4.here hx rfl (hb hby at_69) rfl rfl k) ?_
    obtain ⟨v5, T5, Lc5, X5, hQ5, st5⟩ := own_callSQ (W := 0) (y := (⟨"com/example/join_or_begin/joinorbegin/jdbc/JdbcIsolation", "levelOf", "(Lcom/example/join_or_begin/joinorbegin/Isolation;)Ljava/util/OptionalInt;"⟩ : MethodName)) X4 hx hZ hown (hw _ (List.mem_of_getElem? (i := 4) rfl)) (hw _ (List.mem_of_getElem? (i := 5) rfl)) (hw _ (List.mem_of_getElem? (i := 6) rfl)) (hw _ (List.mem_of_getElem? (i := 7) rfl)) (by decide) (own_lv1 l Z a0 hw w_READ_UNCOMMITTED sa cl h0.size h0 E_READ_UNCOMMITTED O_READ_UNCOMMITTED SW Ar SZ el1 K.1) e4 (by decide) (by decide) (by decide) (by decide) (g := (mkF m 70 #[.val (.int p1), .val (.int (1 : Int32)), .val (.ref w_READ_UNCOMMITTED), .val (.int (1 : Int32)), .unset] [(.ref w_READ_UNCOMMITTED)])) rfl (by rw [hml]; rfl) (argsL := [(.ref w_READ_UNCOMMITTED)]) (rest := []) (lenOf pd_51 rfl) rfl (by show 2 * 0 + _ ≤ _; exact Nat.le_of_eq rfl) (hb hby at_70) rfl
    obtain ⟨zz, rfl, N5, K5, E_zz, F_isPresent_zz, F_value_zz⟩ := hQ5
    have K := K.trans K5 all0
    have N := Fr.app N N5
    refine own_via (T' := T5) (g' := (mkF m 73 #[.val (.int p1), .val (.int (1 : Int32)), .val (.ref w_READ_UNCOMMITTED), .val (.int (1 : Int32)), .unset] [(.ref zz)])) st5 ?_
    refine own_via (T' := T5) (g' := (mkF m 75 #[.val (.int p1), .val (.int (1 : Int32)), .val (.ref w_READ_UNCOMMITTED), .val (.int (1 : Int32)), .val (.ref zz)] [])) (fun t k => XS.astore X5.here hx rfl (hb hby at_73) rfl rfl (l' := #[.val (.int p1), .val (.int (1 : Int32)), .val (.ref w_READ_UNCOMMITTED), .val (.int (1 : Int32)), .val (.ref zz)]) rfl k) ?_
    refine own_via (T' := T5) (g' := (mkF m 76 #[.val (.int p1), .val (.int (1 : Int32)), .val (.ref w_READ_UNCOMMITTED), .val (.int (1 : Int32)), .val (.ref zz)] [(.int (1 : Int32))])) (fun t k => XS.iloadN X5.here hx rfl (hb hby at_75) rfl k) ?_
    refine own_via (T' := T5) (g' := (mkF m 93 #[.val (.int p1), .val (.int (1 : Int32)), .val (.ref w_READ_UNCOMMITTED), .val (.int (1 : Int32)), .val (.ref zz)] [])) (fun t k => XS.ifYes X5.here hx rfl (pc0 := 76) (pc' := 93) rfl (hb hby at_76) rfl ((if0 _ _).trans (flt (by decide)).2.1) (by decide) (by decide) k) ?_
    refine own_via (T' := T5) (g' := (mkF m 95 #[.val (.int p1), .val (.int (1 : Int32)), .val (.ref w_READ_UNCOMMITTED), .val (.int (1 : Int32)), .val (.ref zz)] [(.ref zz)])) (fun t k => XS.aload X5.here hx rfl (hb hby at_93) rfl rfl k) ?_
    obtain ⟨T6, X6, e6, st6⟩ := own_callV (W := 0) (r := (some (.int (1 : Int32)))) (y := (⟨"java/util/OptionalInt", "isPresent", "()Z"⟩ : MethodName)) (z := (⟨"java/util/OptionalInt", "isPresent", "()Z"⟩ : MethodName)) X5 hx hZ hown (hw _ (List.mem_of_getElem? (i := 25) rfl)) (hw _ (List.mem_of_getElem? (i := 26) rfl)) (notFace_of_selects (args := #[]) (mvT hZ (hw _ (List.mem_of_getElem? (i := 28) rfl)))) (hw _ (List.mem_of_getElem? (i := 28) rfl)) (hw _ (List.mem_of_getElem? (i := 27) rfl)) (by decide) (hw _ (List.mem_of_getElem? (i := 29) rfl)) (hw _ (List.mem_of_getElem? (i := 22) rfl)) (own_ip1 l Z a0 hw zz T5.heap F_isPresent_zz) rfl E_zz (by decide) (by decide) (by decide) (by decide) (g := (mkF m 95 #[.val (.int p1), .val (.int (1 : Int32)), .val (.ref w_READ_UNCOMMITTED), .val (.int (1 : Int32)), .val (.ref zz)] [(.ref zz)])) rfl (by rw [hml]; rfl) (argsL := []) (rest := []) (lenOf pd_52 rfl) rfl (by show 2 * 0 + _ ≤ _; exact Nat.le_of_eq rfl) (hb hby at_95) rfl
    refine own_via (T' := T6) (g' := (mkF m 98 #[.val (.int p1), .val (.int (1 : Int32)), .val (.ref w_READ_UNCOMMITTED), .val (.int (1 : Int32)), .val (.ref zz)] [(.int (1 : Int32))])) st6 ?_
    refine own_via (T' := T6) (g' := (mkF m 101 #[.val (.int p1), .val (.int (1 : Int32)), .val (.ref w_READ_UNCOMMITTED), .val (.int (1 : Int32)), .val (.ref zz)] [])) (fun t k => XS.ifNo X6.here hx rfl (hb hby at_98) rfl ((if0 _ _).trans (feq (by decide)).1) k) ?_
    refine own_via (T' := T6) (g' := (mkF m 103 #[.val (.int p1), .val (.int (1 : Int32)), .val (.ref w_READ_UNCOMMITTED), .val (.int (1 : Int32)), .val (.ref zz)] [(.ref zz)])) (fun t k => XS.aload X6.here hx rfl (hb hby at_101) rfl rfl k) ?_
    obtain ⟨T7, X7, e7, st7⟩ := own_callV (W := 0) (r := (some (.int (1 : Int32)))) (y := (⟨"java/util/OptionalInt", "getAsInt", "()I"⟩ : MethodName)) (z := (⟨"java/util/OptionalInt", "getAsInt", "()I"⟩ : MethodName)) X6 hx hZ hown (hw _ (List.mem_of_getElem? (i := 48) rfl)) (hw _ (List.mem_of_getElem? (i := 49) rfl)) (notFace_of_selects (args := #[]) (mvT hZ (hw _ (List.mem_of_getElem? (i := 51) rfl)))) (hw _ (List.mem_of_getElem? (i := 51) rfl)) (hw _ (List.mem_of_getElem? (i := 50) rfl)) (by decide) (hw _ (List.mem_of_getElem? (i := 52) rfl)) (hw _ (List.mem_of_getElem? (i := 22) rfl)) (own_ga l Z a0 hw zz (1 : Int32) T5.heap F_isPresent_zz F_value_zz) e6 E_zz (by decide) (by decide) (by decide) (by decide) (g := (mkF m 103 #[.val (.int p1), .val (.int (1 : Int32)), .val (.ref w_READ_UNCOMMITTED), .val (.int (1 : Int32)), .val (.ref zz)] [(.ref zz)])) rfl (by rw [hml]; rfl) (argsL := []) (rest := []) (lenOf pd_29 rfl) rfl (by show 2 * 0 + _ ≤ _; exact Nat.le_of_eq rfl) (hb hby at_103) rfl
    refine own_via (T' := T7) (g' := (mkF m 106 #[.val (.int p1), .val (.int (1 : Int32)), .val (.ref w_READ_UNCOMMITTED), .val (.int (1 : Int32)), .val (.ref zz)] [(.int (1 : Int32))])) st7 ?_
    refine own_via (T' := T7) (g' := (mkF m 107 #[.val (.int p1), .val (.int (1 : Int32)), .val (.ref w_READ_UNCOMMITTED), .val (.int (1 : Int32)), .val (.ref zz)] [(.int (1 : Int32)), (.int (1 : Int32))])) (fun t k => XS.iloadN X7.here hx rfl (hb hby at_106) rfl k) ?_
    refine own_via (T' := T7) (g' := (mkF m 110 #[.val (.int p1), .val (.int (1 : Int32)), .val (.ref w_READ_UNCOMMITTED), .val (.int (1 : Int32)), .val (.ref zz)] [])) (fun t k => XS.icmpNo X7.here hx rfl (hb hby at_107) rfl (teq rfl).2 k) ?_
    refine own_via (T' := T7) (g' := (mkF m 111 #[.val (.int p1), .val (.int (1 : Int32)), .val (.ref w_READ_UNCOMMITTED), .val (.int (1 : Int32)), .val (.ref zz)] [(.int (1 : Int32))])) (fun t k => XS.iconst X7.here hx rfl (hb hby at_110) k) ?_
    refine own_via (T' := T7) (g' := (mkF m 115 #[.val (.int p1), .val (.int (1 : Int32)), .val (.ref w_READ_UNCOMMITTED), .val (.int (1 : Int32)), .val (.ref zz)] [(.int (1 : Int32))])) (fun t k => XS.goto X7.here hx rfl (pc0 := 111) (pc' := 115) rfl (hb hby at_111) (by decide) (by decide) k) ?_
    exact own_ret (t := .boolean) X7 hx Bd.returns hlk rfl (Or.inl ⟨rfl, by simp, _, rfl⟩) (hb hby at_115) (by decide) (by decide) ⟨rfl, N⟩
  · refine own_via (T' := s₁) (g' := (mkF m 7 #[.val (.int p1), .val (.int (2 : Int32)), .unset, .unset, .unset] [])) (fun t k => XS.istoreN X0.here hx rfl (hb hby at_6) rfl (l' := #[.val (.int p1), .val (.int (2 : Int32)), .unset, .unset, .unset]) rfl k) ?_
    refine own_via (T' := s₁) (g' := (mkF m 8 #[.val (.int p1), .val (.int (2 : Int32)), .unset, .unset, .unset] [(.int (2 : Int32))])) (fun t k => XS.iloadN X0.here hx rfl (hb hby at_7) rfl k) ?_
    refine own_via (T' := s₁) (g' := (mkF m 20 #[.val (.int p1), .val (.int (2 : Int32)), .unset, .unset, .unset] [])) (fun t k => XS.ifYes X0.here hx rfl (pc0 := 8) (pc' := 20) rfl (hb hby at_8) rfl ((if0 _ _).trans (feq (by decide)).2) (by decide) (by decide) k) ?_
    refine own_via (T' := s₁) (g' := (mkF m 21 #[.val (.int p1), .val (.int (2 : Int32)), .unset, .unset, .unset] [(.int (2 : Int32))])) (fun t k => XS.iloadN X0.here hx rfl (hb hby at_20) rfl k) ?_
    refine own_via (T' := s₁) (g' := (mkF m 22 #[.val (.int p1), .val (.int (2 : Int32)), .unset, .unset, .unset] [(.int (1 : Int32)), (.int (2 : Int32))])) (fun t k => XS.iconst X0.here hx rfl (hb hby at_21) k) ?_
    refine own_via (T' := s₁) (g' := (mkF m 34 #[.val (.int p1), .val (.int (2 : Int32)), .unset, .unset, .unset] [])) (fun t k => XS.icmpYes X0.here hx rfl (pc0 := 22) (pc' := 34) rfl (hb hby at_22) rfl (feq (by decide)).2 (by decide) (by decide) k) ?_
    refine own_via (T' := s₁) (g' := (mkF m 35 #[.val (.int p1), .val (.int (2 : Int32)), .unset, .unset, .unset] [(.int (2 : Int32))])) (fun t k => XS.iloadN X0.here hx rfl (hb hby at_34) rfl k) ?_
    refine own_via (T' := s₁) (g' := (mkF m 36 #[.val (.int p1), .val (.int (2 : Int32)), .unset, .unset, .unset] [(.int (2 : Int32)), (.int (2 : Int32))])) (fun t k => XS.iconst X0.here hx rfl (hb hby at_35) k) ?_
    refine own_via (T' := s₁) (g' := (mkF m 39 #[.val (.int p1), .val (.int (2 : Int32)), .unset, .unset, .unset] [])) (fun t k => XS.icmpNo X0.here hx rfl (hb hby at_36) rfl (teq rfl).2 k) ?_
    obtain ⟨T8, X8, e8, st8⟩ := getS2 X0 hx hZ hown (host := "") (Or.inl (hw _ (List.mem_of_getElem? (i := 57) rfl))) Via.refl e0 S_READ_COMMITTED (g := (mkF m 39 #[.val (.int p1), .val (.int (2 : Int32)), .unset, .unset, .unset] [])) rfl (hb hby at_39)
    refine own_via (T' := T8) (g' := (mkF m 42 #[.val (.int p1), .val (.int (2 : Int32)), .unset, .unset, .unset] [(.ref w_READ_COMMITTED)])) st8 ?_
    refine own_via (T' := T8) (g' := (mkF m 43 #[.val (.int p1), .val (.int (2 : Int32)), .val (.ref w_READ_COMMITTED), .unset, .unset] [])) (fun t k => XS.astoreN X8.here hx rfl (hb hby at_42) rfl rfl (l' := #[.val (.int p1), .val (.int (2 : Int32)), .val (.ref w_READ_COMMITTED), .unset, .unset]) rfl k) ?_
    refine own_via (T' := T8) (g' := (mkF m 44 #[.val (.int p1), .val (.int (2 : Int32)), .val (.ref w_READ_COMMITTED), .unset, .unset] [(.int (2 : Int32))])) (fun t k => XS.iconst X8.here hx rfl (hb hby at_43) k) ?_
    refine own_via (T' := T8) (g' := (mkF m 45 #[.val (.int p1), .val (.int (2 : Int32)), .val (.ref w_READ_COMMITTED), .val (.int (2 : Int32)), .unset] [])) (fun t k => XS.istoreN X8.here hx rfl (hb hby at_44) rfl (l' := #[.val (.int p1), .val (.int (2 : Int32)), .val (.ref w_READ_COMMITTED), .val (.int (2 : Int32)), .unset]) rfl k) ?_
    refine own_via (T' := T8) (g' := (mkF m 69 #[.val (.int p1), .val (.int (2 : Int32)), .val (.ref w_READ_COMMITTED), .val (.int (2 : Int32)), .unset] [])) (fun t k => XS.goto X8.here hx rfl (pc0 := 45) (pc' := 69) rfl (hb hby at_45) (by decide) (by decide) k) ?_
    refine own_via (T' := T8) (g' := (mkF m 70 #[.val (.int p1), .val (.int (2 : Int32)), .val (.ref w_READ_COMMITTED), .val (.int (2 : Int32)), .unset] [(.ref w_READ_COMMITTED)])) (fun t k => XS.aloadN X8.here hx rfl (hb hby at_69) rfl rfl k) ?_
    obtain ⟨v9, T9, Lc9, X9, hQ9, st9⟩ := own_callSQ (W := 0) (y := (⟨"com/example/join_or_begin/joinorbegin/jdbc/JdbcIsolation", "levelOf", "(Lcom/example/join_or_begin/joinorbegin/Isolation;)Ljava/util/OptionalInt;"⟩ : MethodName)) X8 hx hZ hown (hw _ (List.mem_of_getElem? (i := 4) rfl)) (hw _ (List.mem_of_getElem? (i := 5) rfl)) (hw _ (List.mem_of_getElem? (i := 6) rfl)) (hw _ (List.mem_of_getElem? (i := 7) rfl)) (by decide) (own_lv2 l Z a0 hw w_READ_COMMITTED sa cl h0.size h0 E_READ_COMMITTED O_READ_COMMITTED SW Ar SZ el2 K.1) e8 (by decide) (by decide) (by decide) (by decide) (g := (mkF m 70 #[.val (.int p1), .val (.int (2 : Int32)), .val (.ref w_READ_COMMITTED), .val (.int (2 : Int32)), .unset] [(.ref w_READ_COMMITTED)])) rfl (by rw [hml]; rfl) (argsL := [(.ref w_READ_COMMITTED)]) (rest := []) (lenOf pd_51 rfl) rfl (by show 2 * 0 + _ ≤ _; exact Nat.le_of_eq rfl) (hb hby at_70) rfl
    obtain ⟨zz, rfl, N9, K9, E_zz, F_isPresent_zz, F_value_zz⟩ := hQ9
    have K := K.trans K9 all0
    have N := Fr.app N N9
    refine own_via (T' := T9) (g' := (mkF m 73 #[.val (.int p1), .val (.int (2 : Int32)), .val (.ref w_READ_COMMITTED), .val (.int (2 : Int32)), .unset] [(.ref zz)])) st9 ?_
    refine own_via (T' := T9) (g' := (mkF m 75 #[.val (.int p1), .val (.int (2 : Int32)), .val (.ref w_READ_COMMITTED), .val (.int (2 : Int32)), .val (.ref zz)] [])) (fun t k => XS.astore X9.here hx rfl (hb hby at_73) rfl rfl (l' := #[.val (.int p1), .val (.int (2 : Int32)), .val (.ref w_READ_COMMITTED), .val (.int (2 : Int32)), .val (.ref zz)]) rfl k) ?_
    refine own_via (T' := T9) (g' := (mkF m 76 #[.val (.int p1), .val (.int (2 : Int32)), .val (.ref w_READ_COMMITTED), .val (.int (2 : Int32)), .val (.ref zz)] [(.int (2 : Int32))])) (fun t k => XS.iloadN X9.here hx rfl (hb hby at_75) rfl k) ?_
    refine own_via (T' := T9) (g' := (mkF m 93 #[.val (.int p1), .val (.int (2 : Int32)), .val (.ref w_READ_COMMITTED), .val (.int (2 : Int32)), .val (.ref zz)] [])) (fun t k => XS.ifYes X9.here hx rfl (pc0 := 76) (pc' := 93) rfl (hb hby at_76) rfl ((if0 _ _).trans (flt (by decide)).2.1) (by decide) (by decide) k) ?_
    refine own_via (T' := T9) (g' := (mkF m 95 #[.val (.int p1), .val (.int (2 : Int32)), .val (.ref w_READ_COMMITTED), .val (.int (2 : Int32)), .val (.ref zz)] [(.ref zz)])) (fun t k => XS.aload X9.here hx rfl (hb hby at_93) rfl rfl k) ?_
    obtain ⟨T10, X10, e10, st10⟩ := own_callV (W := 0) (r := (some (.int (1 : Int32)))) (y := (⟨"java/util/OptionalInt", "isPresent", "()Z"⟩ : MethodName)) (z := (⟨"java/util/OptionalInt", "isPresent", "()Z"⟩ : MethodName)) X9 hx hZ hown (hw _ (List.mem_of_getElem? (i := 25) rfl)) (hw _ (List.mem_of_getElem? (i := 26) rfl)) (notFace_of_selects (args := #[]) (mvT hZ (hw _ (List.mem_of_getElem? (i := 28) rfl)))) (hw _ (List.mem_of_getElem? (i := 28) rfl)) (hw _ (List.mem_of_getElem? (i := 27) rfl)) (by decide) (hw _ (List.mem_of_getElem? (i := 29) rfl)) (hw _ (List.mem_of_getElem? (i := 22) rfl)) (own_ip1 l Z a0 hw zz T9.heap F_isPresent_zz) rfl E_zz (by decide) (by decide) (by decide) (by decide) (g := (mkF m 95 #[.val (.int p1), .val (.int (2 : Int32)), .val (.ref w_READ_COMMITTED), .val (.int (2 : Int32)), .val (.ref zz)] [(.ref zz)])) rfl (by rw [hml]; rfl) (argsL := []) (rest := []) (lenOf pd_52 rfl) rfl (by show 2 * 0 + _ ≤ _; exact Nat.le_of_eq rfl) (hb hby at_95) rfl
    refine own_via (T' := T10) (g' := (mkF m 98 #[.val (.int p1), .val (.int (2 : Int32)), .val (.ref w_READ_COMMITTED), .val (.int (2 : Int32)), .val (.ref zz)] [(.int (1 : Int32))])) st10 ?_
    refine own_via (T' := T10) (g' := (mkF m 101 #[.val (.int p1), .val (.int (2 : Int32)), .val (.ref w_READ_COMMITTED), .val (.int (2 : Int32)), .val (.ref zz)] [])) (fun t k => XS.ifNo X10.here hx rfl (hb hby at_98) rfl ((if0 _ _).trans (feq (by decide)).1) k) ?_
    refine own_via (T' := T10) (g' := (mkF m 103 #[.val (.int p1), .val (.int (2 : Int32)), .val (.ref w_READ_COMMITTED), .val (.int (2 : Int32)), .val (.ref zz)] [(.ref zz)])) (fun t k => XS.aload X10.here hx rfl (hb hby at_101) rfl rfl k) ?_
    obtain ⟨T11, X11, e11, st11⟩ := own_callV (W := 0) (r := (some (.int (2 : Int32)))) (y := (⟨"java/util/OptionalInt", "getAsInt", "()I"⟩ : MethodName)) (z := (⟨"java/util/OptionalInt", "getAsInt", "()I"⟩ : MethodName)) X10 hx hZ hown (hw _ (List.mem_of_getElem? (i := 48) rfl)) (hw _ (List.mem_of_getElem? (i := 49) rfl)) (notFace_of_selects (args := #[]) (mvT hZ (hw _ (List.mem_of_getElem? (i := 51) rfl)))) (hw _ (List.mem_of_getElem? (i := 51) rfl)) (hw _ (List.mem_of_getElem? (i := 50) rfl)) (by decide) (hw _ (List.mem_of_getElem? (i := 52) rfl)) (hw _ (List.mem_of_getElem? (i := 22) rfl)) (own_ga l Z a0 hw zz (2 : Int32) T9.heap F_isPresent_zz F_value_zz) e10 E_zz (by decide) (by decide) (by decide) (by decide) (g := (mkF m 103 #[.val (.int p1), .val (.int (2 : Int32)), .val (.ref w_READ_COMMITTED), .val (.int (2 : Int32)), .val (.ref zz)] [(.ref zz)])) rfl (by rw [hml]; rfl) (argsL := []) (rest := []) (lenOf pd_29 rfl) rfl (by show 2 * 0 + _ ≤ _; exact Nat.le_of_eq rfl) (hb hby at_103) rfl
    refine own_via (T' := T11) (g' := (mkF m 106 #[.val (.int p1), .val (.int (2 : Int32)), .val (.ref w_READ_COMMITTED), .val (.int (2 : Int32)), .val (.ref zz)] [(.int (2 : Int32))])) st11 ?_
    refine own_via (T' := T11) (g' := (mkF m 107 #[.val (.int p1), .val (.int (2 : Int32)), .val (.ref w_READ_COMMITTED), .val (.int (2 : Int32)), .val (.ref zz)] [(.int (2 : Int32)), (.int (2 : Int32))])) (fun t k => XS.iloadN X11.here hx rfl (hb hby at_106) rfl k) ?_
    refine own_via (T' := T11) (g' := (mkF m 110 #[.val (.int p1), .val (.int (2 : Int32)), .val (.ref w_READ_COMMITTED), .val (.int (2 : Int32)), .val (.ref zz)] [])) (fun t k => XS.icmpNo X11.here hx rfl (hb hby at_107) rfl (teq rfl).2 k) ?_
    refine own_via (T' := T11) (g' := (mkF m 111 #[.val (.int p1), .val (.int (2 : Int32)), .val (.ref w_READ_COMMITTED), .val (.int (2 : Int32)), .val (.ref zz)] [(.int (1 : Int32))])) (fun t k => XS.iconst X11.here hx rfl (hb hby at_110) k) ?_
    refine own_via (T' := T11) (g' := (mkF m 115 #[.val (.int p1), .val (.int (2 : Int32)), .val (.ref w_READ_COMMITTED), .val (.int (2 : Int32)), .val (.ref zz)] [(.int (1 : Int32))])) (fun t k => XS.goto X11.here hx rfl (pc0 := 111) (pc' := 115) rfl (hb hby at_111) (by decide) (by decide) k) ?_
    exact own_ret (t := .boolean) X11 hx Bd.returns hlk rfl (Or.inl ⟨rfl, by simp, _, rfl⟩) (hb hby at_115) (by decide) (by decide) ⟨rfl, N⟩
  · refine own_via (T' := s₁) (g' := (mkF m 7 #[.val (.int p1), .val (.int (3 : Int32)), .unset, .unset, .unset] [])) (fun t k => XS.istoreN X0.here hx rfl (hb hby at_6) rfl (l' := #[.val (.int p1), .val (.int (3 : Int32)), .unset, .unset, .unset]) rfl k) ?_
    refine own_via (T' := s₁) (g' := (mkF m 8 #[.val (.int p1), .val (.int (3 : Int32)), .unset, .unset, .unset] [(.int (3 : Int32))])) (fun t k => XS.iloadN X0.here hx rfl (hb hby at_7) rfl k) ?_
    refine own_via (T' := s₁) (g' := (mkF m 20 #[.val (.int p1), .val (.int (3 : Int32)), .unset, .unset, .unset] [])) (fun t k => XS.ifYes X0.here hx rfl (pc0 := 8) (pc' := 20) rfl (hb hby at_8) rfl ((if0 _ _).trans (feq (by decide)).2) (by decide) (by decide) k) ?_
    refine own_via (T' := s₁) (g' := (mkF m 21 #[.val (.int p1), .val (.int (3 : Int32)), .unset, .unset, .unset] [(.int (3 : Int32))])) (fun t k => XS.iloadN X0.here hx rfl (hb hby at_20) rfl k) ?_
    refine own_via (T' := s₁) (g' := (mkF m 22 #[.val (.int p1), .val (.int (3 : Int32)), .unset, .unset, .unset] [(.int (1 : Int32)), (.int (3 : Int32))])) (fun t k => XS.iconst X0.here hx rfl (hb hby at_21) k) ?_
    refine own_via (T' := s₁) (g' := (mkF m 34 #[.val (.int p1), .val (.int (3 : Int32)), .unset, .unset, .unset] [])) (fun t k => XS.icmpYes X0.here hx rfl (pc0 := 22) (pc' := 34) rfl (hb hby at_22) rfl (feq (by decide)).2 (by decide) (by decide) k) ?_
    refine own_via (T' := s₁) (g' := (mkF m 35 #[.val (.int p1), .val (.int (3 : Int32)), .unset, .unset, .unset] [(.int (3 : Int32))])) (fun t k => XS.iloadN X0.here hx rfl (hb hby at_34) rfl k) ?_
    refine own_via (T' := s₁) (g' := (mkF m 36 #[.val (.int p1), .val (.int (3 : Int32)), .unset, .unset, .unset] [(.int (2 : Int32)), (.int (3 : Int32))])) (fun t k => XS.iconst X0.here hx rfl (hb hby at_35) k) ?_
    refine own_via (T' := s₁) (g' := (mkF m 48 #[.val (.int p1), .val (.int (3 : Int32)), .unset, .unset, .unset] [])) (fun t k => XS.icmpYes X0.here hx rfl (pc0 := 36) (pc' := 48) rfl (hb hby at_36) rfl (feq (by decide)).2 (by decide) (by decide) k) ?_
    refine own_via (T' := s₁) (g' := (mkF m 49 #[.val (.int p1), .val (.int (3 : Int32)), .unset, .unset, .unset] [(.int (3 : Int32))])) (fun t k => XS.iloadN X0.here hx rfl (hb hby at_48) rfl k) ?_
    refine own_via (T' := s₁) (g' := (mkF m 50 #[.val (.int p1), .val (.int (3 : Int32)), .unset, .unset, .unset] [(.int (3 : Int32)), (.int (3 : Int32))])) (fun t k => XS.iconst X0.here hx rfl (hb hby at_49) k) ?_
    refine own_via (T' := s₁) (g' := (mkF m 53 #[.val (.int p1), .val (.int (3 : Int32)), .unset, .unset, .unset] [])) (fun t k => XS.icmpNo X0.here hx rfl (hb hby at_50) rfl (teq rfl).2 k) ?_
    obtain ⟨T12, X12, e12, st12⟩ := getS2 X0 hx hZ hown (host := "") (Or.inl (hw _ (List.mem_of_getElem? (i := 32) rfl))) Via.refl e0 S_REPEATABLE_READ (g := (mkF m 53 #[.val (.int p1), .val (.int (3 : Int32)), .unset, .unset, .unset] [])) rfl (hb hby at_53)
    refine own_via (T' := T12) (g' := (mkF m 56 #[.val (.int p1), .val (.int (3 : Int32)), .unset, .unset, .unset] [(.ref w_REPEATABLE_READ)])) st12 ?_
    refine own_via (T' := T12) (g' := (mkF m 57 #[.val (.int p1), .val (.int (3 : Int32)), .val (.ref w_REPEATABLE_READ), .unset, .unset] [])) (fun t k => XS.astoreN X12.here hx rfl (hb hby at_56) rfl rfl (l' := #[.val (.int p1), .val (.int (3 : Int32)), .val (.ref w_REPEATABLE_READ), .unset, .unset]) rfl k) ?_
    refine own_via (T' := T12) (g' := (mkF m 58 #[.val (.int p1), .val (.int (3 : Int32)), .val (.ref w_REPEATABLE_READ), .unset, .unset] [(.int (4 : Int32))])) (fun t k => XS.iconst X12.here hx rfl (hb hby at_57) k) ?_
    refine own_via (T' := T12) (g' := (mkF m 59 #[.val (.int p1), .val (.int (3 : Int32)), .val (.ref w_REPEATABLE_READ), .val (.int (4 : Int32)), .unset] [])) (fun t k => XS.istoreN X12.here hx rfl (hb hby at_58) rfl (l' := #[.val (.int p1), .val (.int (3 : Int32)), .val (.ref w_REPEATABLE_READ), .val (.int (4 : Int32)), .unset]) rfl k) ?_
    refine own_via (T' := T12) (g' := (mkF m 69 #[.val (.int p1), .val (.int (3 : Int32)), .val (.ref w_REPEATABLE_READ), .val (.int (4 : Int32)), .unset] [])) (fun t k => XS.goto X12.here hx rfl (pc0 := 59) (pc' := 69) rfl (hb hby at_59) (by decide) (by decide) k) ?_
    refine own_via (T' := T12) (g' := (mkF m 70 #[.val (.int p1), .val (.int (3 : Int32)), .val (.ref w_REPEATABLE_READ), .val (.int (4 : Int32)), .unset] [(.ref w_REPEATABLE_READ)])) (fun t k => XS.aloadN X12.here hx rfl (hb hby at_69) rfl rfl k) ?_
    obtain ⟨v13, T13, Lc13, X13, hQ13, st13⟩ := own_callSQ (W := 0) (y := (⟨"com/example/join_or_begin/joinorbegin/jdbc/JdbcIsolation", "levelOf", "(Lcom/example/join_or_begin/joinorbegin/Isolation;)Ljava/util/OptionalInt;"⟩ : MethodName)) X12 hx hZ hown (hw _ (List.mem_of_getElem? (i := 4) rfl)) (hw _ (List.mem_of_getElem? (i := 5) rfl)) (hw _ (List.mem_of_getElem? (i := 6) rfl)) (hw _ (List.mem_of_getElem? (i := 7) rfl)) (by decide) (own_lv3 l Z a0 hw w_REPEATABLE_READ sa cl h0.size h0 E_REPEATABLE_READ O_REPEATABLE_READ SW Ar SZ el3 K.1) e12 (by decide) (by decide) (by decide) (by decide) (g := (mkF m 70 #[.val (.int p1), .val (.int (3 : Int32)), .val (.ref w_REPEATABLE_READ), .val (.int (4 : Int32)), .unset] [(.ref w_REPEATABLE_READ)])) rfl (by rw [hml]; rfl) (argsL := [(.ref w_REPEATABLE_READ)]) (rest := []) (lenOf pd_51 rfl) rfl (by show 2 * 0 + _ ≤ _; exact Nat.le_of_eq rfl) (hb hby at_70) rfl
    obtain ⟨zz, rfl, N13, K13, E_zz, F_isPresent_zz, F_value_zz⟩ := hQ13
    have K := K.trans K13 all0
    have N := Fr.app N N13
    refine own_via (T' := T13) (g' := (mkF m 73 #[.val (.int p1), .val (.int (3 : Int32)), .val (.ref w_REPEATABLE_READ), .val (.int (4 : Int32)), .unset] [(.ref zz)])) st13 ?_
    refine own_via (T' := T13) (g' := (mkF m 75 #[.val (.int p1), .val (.int (3 : Int32)), .val (.ref w_REPEATABLE_READ), .val (.int (4 : Int32)), .val (.ref zz)] [])) (fun t k => XS.astore X13.here hx rfl (hb hby at_73) rfl rfl (l' := #[.val (.int p1), .val (.int (3 : Int32)), .val (.ref w_REPEATABLE_READ), .val (.int (4 : Int32)), .val (.ref zz)]) rfl k) ?_
    refine own_via (T' := T13) (g' := (mkF m 76 #[.val (.int p1), .val (.int (3 : Int32)), .val (.ref w_REPEATABLE_READ), .val (.int (4 : Int32)), .val (.ref zz)] [(.int (4 : Int32))])) (fun t k => XS.iloadN X13.here hx rfl (hb hby at_75) rfl k) ?_
    refine own_via (T' := T13) (g' := (mkF m 93 #[.val (.int p1), .val (.int (3 : Int32)), .val (.ref w_REPEATABLE_READ), .val (.int (4 : Int32)), .val (.ref zz)] [])) (fun t k => XS.ifYes X13.here hx rfl (pc0 := 76) (pc' := 93) rfl (hb hby at_76) rfl ((if0 _ _).trans (flt (by decide)).2.1) (by decide) (by decide) k) ?_
    refine own_via (T' := T13) (g' := (mkF m 95 #[.val (.int p1), .val (.int (3 : Int32)), .val (.ref w_REPEATABLE_READ), .val (.int (4 : Int32)), .val (.ref zz)] [(.ref zz)])) (fun t k => XS.aload X13.here hx rfl (hb hby at_93) rfl rfl k) ?_
    obtain ⟨T14, X14, e14, st14⟩ := own_callV (W := 0) (r := (some (.int (1 : Int32)))) (y := (⟨"java/util/OptionalInt", "isPresent", "()Z"⟩ : MethodName)) (z := (⟨"java/util/OptionalInt", "isPresent", "()Z"⟩ : MethodName)) X13 hx hZ hown (hw _ (List.mem_of_getElem? (i := 25) rfl)) (hw _ (List.mem_of_getElem? (i := 26) rfl)) (notFace_of_selects (args := #[]) (mvT hZ (hw _ (List.mem_of_getElem? (i := 28) rfl)))) (hw _ (List.mem_of_getElem? (i := 28) rfl)) (hw _ (List.mem_of_getElem? (i := 27) rfl)) (by decide) (hw _ (List.mem_of_getElem? (i := 29) rfl)) (hw _ (List.mem_of_getElem? (i := 22) rfl)) (own_ip1 l Z a0 hw zz T13.heap F_isPresent_zz) rfl E_zz (by decide) (by decide) (by decide) (by decide) (g := (mkF m 95 #[.val (.int p1), .val (.int (3 : Int32)), .val (.ref w_REPEATABLE_READ), .val (.int (4 : Int32)), .val (.ref zz)] [(.ref zz)])) rfl (by rw [hml]; rfl) (argsL := []) (rest := []) (lenOf pd_52 rfl) rfl (by show 2 * 0 + _ ≤ _; exact Nat.le_of_eq rfl) (hb hby at_95) rfl
    refine own_via (T' := T14) (g' := (mkF m 98 #[.val (.int p1), .val (.int (3 : Int32)), .val (.ref w_REPEATABLE_READ), .val (.int (4 : Int32)), .val (.ref zz)] [(.int (1 : Int32))])) st14 ?_
    refine own_via (T' := T14) (g' := (mkF m 101 #[.val (.int p1), .val (.int (3 : Int32)), .val (.ref w_REPEATABLE_READ), .val (.int (4 : Int32)), .val (.ref zz)] [])) (fun t k => XS.ifNo X14.here hx rfl (hb hby at_98) rfl ((if0 _ _).trans (feq (by decide)).1) k) ?_
    refine own_via (T' := T14) (g' := (mkF m 103 #[.val (.int p1), .val (.int (3 : Int32)), .val (.ref w_REPEATABLE_READ), .val (.int (4 : Int32)), .val (.ref zz)] [(.ref zz)])) (fun t k => XS.aload X14.here hx rfl (hb hby at_101) rfl rfl k) ?_
    obtain ⟨T15, X15, e15, st15⟩ := own_callV (W := 0) (r := (some (.int (4 : Int32)))) (y := (⟨"java/util/OptionalInt", "getAsInt", "()I"⟩ : MethodName)) (z := (⟨"java/util/OptionalInt", "getAsInt", "()I"⟩ : MethodName)) X14 hx hZ hown (hw _ (List.mem_of_getElem? (i := 48) rfl)) (hw _ (List.mem_of_getElem? (i := 49) rfl)) (notFace_of_selects (args := #[]) (mvT hZ (hw _ (List.mem_of_getElem? (i := 51) rfl)))) (hw _ (List.mem_of_getElem? (i := 51) rfl)) (hw _ (List.mem_of_getElem? (i := 50) rfl)) (by decide) (hw _ (List.mem_of_getElem? (i := 52) rfl)) (hw _ (List.mem_of_getElem? (i := 22) rfl)) (own_ga l Z a0 hw zz (4 : Int32) T13.heap F_isPresent_zz F_value_zz) e14 E_zz (by decide) (by decide) (by decide) (by decide) (g := (mkF m 103 #[.val (.int p1), .val (.int (3 : Int32)), .val (.ref w_REPEATABLE_READ), .val (.int (4 : Int32)), .val (.ref zz)] [(.ref zz)])) rfl (by rw [hml]; rfl) (argsL := []) (rest := []) (lenOf pd_29 rfl) rfl (by show 2 * 0 + _ ≤ _; exact Nat.le_of_eq rfl) (hb hby at_103) rfl
    refine own_via (T' := T15) (g' := (mkF m 106 #[.val (.int p1), .val (.int (3 : Int32)), .val (.ref w_REPEATABLE_READ), .val (.int (4 : Int32)), .val (.ref zz)] [(.int (4 : Int32))])) st15 ?_
    refine own_via (T' := T15) (g' := (mkF m 107 #[.val (.int p1), .val (.int (3 : Int32)), .val (.ref w_REPEATABLE_READ), .val (.int (4 : Int32)), .val (.ref zz)] [(.int (4 : Int32)), (.int (4 : Int32))])) (fun t k => XS.iloadN X15.here hx rfl (hb hby at_106) rfl k) ?_
    refine own_via (T' := T15) (g' := (mkF m 110 #[.val (.int p1), .val (.int (3 : Int32)), .val (.ref w_REPEATABLE_READ), .val (.int (4 : Int32)), .val (.ref zz)] [])) (fun t k => XS.icmpNo X15.here hx rfl (hb hby at_107) rfl (teq rfl).2 k) ?_
    refine own_via (T' := T15) (g' := (mkF m 111 #[.val (.int p1), .val (.int (3 : Int32)), .val (.ref w_REPEATABLE_READ), .val (.int (4 : Int32)), .val (.ref zz)] [(.int (1 : Int32))])) (fun t k => XS.iconst X15.here hx rfl (hb hby at_110) k) ?_
    refine own_via (T' := T15) (g' := (mkF m 115 #[.val (.int p1), .val (.int (3 : Int32)), .val (.ref w_REPEATABLE_READ), .val (.int (4 : Int32)), .val (.ref zz)] [(.int (1 : Int32))])) (fun t k => XS.goto X15.here hx rfl (pc0 := 111) (pc' := 115) rfl (hb hby at_111) (by decide) (by decide) k) ?_
    exact own_ret (t := .boolean) X15 hx Bd.returns hlk rfl (Or.inl ⟨rfl, by simp, _, rfl⟩) (hb hby at_115) (by decide) (by decide) ⟨rfl, N⟩
  · refine own_via (T' := s₁) (g' := (mkF m 7 #[.val (.int p1), .val (.int (4 : Int32)), .unset, .unset, .unset] [])) (fun t k => XS.istoreN X0.here hx rfl (hb hby at_6) rfl (l' := #[.val (.int p1), .val (.int (4 : Int32)), .unset, .unset, .unset]) rfl k) ?_
    refine own_via (T' := s₁) (g' := (mkF m 8 #[.val (.int p1), .val (.int (4 : Int32)), .unset, .unset, .unset] [(.int (4 : Int32))])) (fun t k => XS.iloadN X0.here hx rfl (hb hby at_7) rfl k) ?_
    refine own_via (T' := s₁) (g' := (mkF m 20 #[.val (.int p1), .val (.int (4 : Int32)), .unset, .unset, .unset] [])) (fun t k => XS.ifYes X0.here hx rfl (pc0 := 8) (pc' := 20) rfl (hb hby at_8) rfl ((if0 _ _).trans (feq (by decide)).2) (by decide) (by decide) k) ?_
    refine own_via (T' := s₁) (g' := (mkF m 21 #[.val (.int p1), .val (.int (4 : Int32)), .unset, .unset, .unset] [(.int (4 : Int32))])) (fun t k => XS.iloadN X0.here hx rfl (hb hby at_20) rfl k) ?_
    refine own_via (T' := s₁) (g' := (mkF m 22 #[.val (.int p1), .val (.int (4 : Int32)), .unset, .unset, .unset] [(.int (1 : Int32)), (.int (4 : Int32))])) (fun t k => XS.iconst X0.here hx rfl (hb hby at_21) k) ?_
    refine own_via (T' := s₁) (g' := (mkF m 34 #[.val (.int p1), .val (.int (4 : Int32)), .unset, .unset, .unset] [])) (fun t k => XS.icmpYes X0.here hx rfl (pc0 := 22) (pc' := 34) rfl (hb hby at_22) rfl (feq (by decide)).2 (by decide) (by decide) k) ?_
    refine own_via (T' := s₁) (g' := (mkF m 35 #[.val (.int p1), .val (.int (4 : Int32)), .unset, .unset, .unset] [(.int (4 : Int32))])) (fun t k => XS.iloadN X0.here hx rfl (hb hby at_34) rfl k) ?_
    refine own_via (T' := s₁) (g' := (mkF m 36 #[.val (.int p1), .val (.int (4 : Int32)), .unset, .unset, .unset] [(.int (2 : Int32)), (.int (4 : Int32))])) (fun t k => XS.iconst X0.here hx rfl (hb hby at_35) k) ?_
    refine own_via (T' := s₁) (g' := (mkF m 48 #[.val (.int p1), .val (.int (4 : Int32)), .unset, .unset, .unset] [])) (fun t k => XS.icmpYes X0.here hx rfl (pc0 := 36) (pc' := 48) rfl (hb hby at_36) rfl (feq (by decide)).2 (by decide) (by decide) k) ?_
    refine own_via (T' := s₁) (g' := (mkF m 49 #[.val (.int p1), .val (.int (4 : Int32)), .unset, .unset, .unset] [(.int (4 : Int32))])) (fun t k => XS.iloadN X0.here hx rfl (hb hby at_48) rfl k) ?_
    refine own_via (T' := s₁) (g' := (mkF m 50 #[.val (.int p1), .val (.int (4 : Int32)), .unset, .unset, .unset] [(.int (3 : Int32)), (.int (4 : Int32))])) (fun t k => XS.iconst X0.here hx rfl (hb hby at_49) k) ?_
    refine own_via (T' := s₁) (g' := (mkF m 62 #[.val (.int p1), .val (.int (4 : Int32)), .unset, .unset, .unset] [])) (fun t k => XS.icmpYes X0.here hx rfl (pc0 := 50) (pc' := 62) rfl (hb hby at_50) rfl (feq (by decide)).2 (by decide) (by decide) k) ?_
    obtain ⟨T16, X16, e16, st16⟩ := getS2 X0 hx hZ hown (host := "") (Or.inl (hw _ (List.mem_of_getElem? (i := 55) rfl))) Via.refl e0 S_SERIALIZABLE (g := (mkF m 62 #[.val (.int p1), .val (.int (4 : Int32)), .unset, .unset, .unset] [])) rfl (hb hby at_62)
    refine own_via (T' := T16) (g' := (mkF m 65 #[.val (.int p1), .val (.int (4 : Int32)), .unset, .unset, .unset] [(.ref w_SERIALIZABLE)])) st16 ?_
    refine own_via (T' := T16) (g' := (mkF m 66 #[.val (.int p1), .val (.int (4 : Int32)), .val (.ref w_SERIALIZABLE), .unset, .unset] [])) (fun t k => XS.astoreN X16.here hx rfl (hb hby at_65) rfl rfl (l' := #[.val (.int p1), .val (.int (4 : Int32)), .val (.ref w_SERIALIZABLE), .unset, .unset]) rfl k) ?_
    refine own_via (T' := T16) (g' := (mkF m 68 #[.val (.int p1), .val (.int (4 : Int32)), .val (.ref w_SERIALIZABLE), .unset, .unset] [(.int (8 : Int32))])) (fun t k => XS.bipush X16.here hx rfl (hb hby at_66) k) ?_
    refine own_via (T' := T16) (g' := (mkF m 69 #[.val (.int p1), .val (.int (4 : Int32)), .val (.ref w_SERIALIZABLE), .val (.int (8 : Int32)), .unset] [])) (fun t k => XS.istoreN X16.here hx rfl (hb hby at_68) rfl (l' := #[.val (.int p1), .val (.int (4 : Int32)), .val (.ref w_SERIALIZABLE), .val (.int (8 : Int32)), .unset]) rfl k) ?_
    refine own_via (T' := T16) (g' := (mkF m 70 #[.val (.int p1), .val (.int (4 : Int32)), .val (.ref w_SERIALIZABLE), .val (.int (8 : Int32)), .unset] [(.ref w_SERIALIZABLE)])) (fun t k => XS.aloadN X16.here hx rfl (hb hby at_69) rfl rfl k) ?_
    obtain ⟨v17, T17, Lc17, X17, hQ17, st17⟩ := own_callSQ (W := 0) (y := (⟨"com/example/join_or_begin/joinorbegin/jdbc/JdbcIsolation", "levelOf", "(Lcom/example/join_or_begin/joinorbegin/Isolation;)Ljava/util/OptionalInt;"⟩ : MethodName)) X16 hx hZ hown (hw _ (List.mem_of_getElem? (i := 4) rfl)) (hw _ (List.mem_of_getElem? (i := 5) rfl)) (hw _ (List.mem_of_getElem? (i := 6) rfl)) (hw _ (List.mem_of_getElem? (i := 7) rfl)) (by decide) (own_lv4 l Z a0 hw w_SERIALIZABLE sa cl h0.size h0 E_SERIALIZABLE O_SERIALIZABLE SW Ar SZ el4 K.1) e16 (by decide) (by decide) (by decide) (by decide) (g := (mkF m 70 #[.val (.int p1), .val (.int (4 : Int32)), .val (.ref w_SERIALIZABLE), .val (.int (8 : Int32)), .unset] [(.ref w_SERIALIZABLE)])) rfl (by rw [hml]; rfl) (argsL := [(.ref w_SERIALIZABLE)]) (rest := []) (lenOf pd_51 rfl) rfl (by show 2 * 0 + _ ≤ _; exact Nat.le_of_eq rfl) (hb hby at_70) rfl
    obtain ⟨zz, rfl, N17, K17, E_zz, F_isPresent_zz, F_value_zz⟩ := hQ17
    have K := K.trans K17 all0
    have N := Fr.app N N17
    refine own_via (T' := T17) (g' := (mkF m 73 #[.val (.int p1), .val (.int (4 : Int32)), .val (.ref w_SERIALIZABLE), .val (.int (8 : Int32)), .unset] [(.ref zz)])) st17 ?_
    refine own_via (T' := T17) (g' := (mkF m 75 #[.val (.int p1), .val (.int (4 : Int32)), .val (.ref w_SERIALIZABLE), .val (.int (8 : Int32)), .val (.ref zz)] [])) (fun t k => XS.astore X17.here hx rfl (hb hby at_73) rfl rfl (l' := #[.val (.int p1), .val (.int (4 : Int32)), .val (.ref w_SERIALIZABLE), .val (.int (8 : Int32)), .val (.ref zz)]) rfl k) ?_
    refine own_via (T' := T17) (g' := (mkF m 76 #[.val (.int p1), .val (.int (4 : Int32)), .val (.ref w_SERIALIZABLE), .val (.int (8 : Int32)), .val (.ref zz)] [(.int (8 : Int32))])) (fun t k => XS.iloadN X17.here hx rfl (hb hby at_75) rfl k) ?_
    refine own_via (T' := T17) (g' := (mkF m 93 #[.val (.int p1), .val (.int (4 : Int32)), .val (.ref w_SERIALIZABLE), .val (.int (8 : Int32)), .val (.ref zz)] [])) (fun t k => XS.ifYes X17.here hx rfl (pc0 := 76) (pc' := 93) rfl (hb hby at_76) rfl ((if0 _ _).trans (flt (by decide)).2.1) (by decide) (by decide) k) ?_
    refine own_via (T' := T17) (g' := (mkF m 95 #[.val (.int p1), .val (.int (4 : Int32)), .val (.ref w_SERIALIZABLE), .val (.int (8 : Int32)), .val (.ref zz)] [(.ref zz)])) (fun t k => XS.aload X17.here hx rfl (hb hby at_93) rfl rfl k) ?_
    obtain ⟨T18, X18, e18, st18⟩ := own_callV (W := 0) (r := (some (.int (1 : Int32)))) (y := (⟨"java/util/OptionalInt", "isPresent", "()Z"⟩ : MethodName)) (z := (⟨"java/util/OptionalInt", "isPresent", "()Z"⟩ : MethodName)) X17 hx hZ hown (hw _ (List.mem_of_getElem? (i := 25) rfl)) (hw _ (List.mem_of_getElem? (i := 26) rfl)) (notFace_of_selects (args := #[]) (mvT hZ (hw _ (List.mem_of_getElem? (i := 28) rfl)))) (hw _ (List.mem_of_getElem? (i := 28) rfl)) (hw _ (List.mem_of_getElem? (i := 27) rfl)) (by decide) (hw _ (List.mem_of_getElem? (i := 29) rfl)) (hw _ (List.mem_of_getElem? (i := 22) rfl)) (own_ip1 l Z a0 hw zz T17.heap F_isPresent_zz) rfl E_zz (by decide) (by decide) (by decide) (by decide) (g := (mkF m 95 #[.val (.int p1), .val (.int (4 : Int32)), .val (.ref w_SERIALIZABLE), .val (.int (8 : Int32)), .val (.ref zz)] [(.ref zz)])) rfl (by rw [hml]; rfl) (argsL := []) (rest := []) (lenOf pd_52 rfl) rfl (by show 2 * 0 + _ ≤ _; exact Nat.le_of_eq rfl) (hb hby at_95) rfl
    refine own_via (T' := T18) (g' := (mkF m 98 #[.val (.int p1), .val (.int (4 : Int32)), .val (.ref w_SERIALIZABLE), .val (.int (8 : Int32)), .val (.ref zz)] [(.int (1 : Int32))])) st18 ?_
    refine own_via (T' := T18) (g' := (mkF m 101 #[.val (.int p1), .val (.int (4 : Int32)), .val (.ref w_SERIALIZABLE), .val (.int (8 : Int32)), .val (.ref zz)] [])) (fun t k => XS.ifNo X18.here hx rfl (hb hby at_98) rfl ((if0 _ _).trans (feq (by decide)).1) k) ?_
    refine own_via (T' := T18) (g' := (mkF m 103 #[.val (.int p1), .val (.int (4 : Int32)), .val (.ref w_SERIALIZABLE), .val (.int (8 : Int32)), .val (.ref zz)] [(.ref zz)])) (fun t k => XS.aload X18.here hx rfl (hb hby at_101) rfl rfl k) ?_
    obtain ⟨T19, X19, e19, st19⟩ := own_callV (W := 0) (r := (some (.int (8 : Int32)))) (y := (⟨"java/util/OptionalInt", "getAsInt", "()I"⟩ : MethodName)) (z := (⟨"java/util/OptionalInt", "getAsInt", "()I"⟩ : MethodName)) X18 hx hZ hown (hw _ (List.mem_of_getElem? (i := 48) rfl)) (hw _ (List.mem_of_getElem? (i := 49) rfl)) (notFace_of_selects (args := #[]) (mvT hZ (hw _ (List.mem_of_getElem? (i := 51) rfl)))) (hw _ (List.mem_of_getElem? (i := 51) rfl)) (hw _ (List.mem_of_getElem? (i := 50) rfl)) (by decide) (hw _ (List.mem_of_getElem? (i := 52) rfl)) (hw _ (List.mem_of_getElem? (i := 22) rfl)) (own_ga l Z a0 hw zz (8 : Int32) T17.heap F_isPresent_zz F_value_zz) e18 E_zz (by decide) (by decide) (by decide) (by decide) (g := (mkF m 103 #[.val (.int p1), .val (.int (4 : Int32)), .val (.ref w_SERIALIZABLE), .val (.int (8 : Int32)), .val (.ref zz)] [(.ref zz)])) rfl (by rw [hml]; rfl) (argsL := []) (rest := []) (lenOf pd_29 rfl) rfl (by show 2 * 0 + _ ≤ _; exact Nat.le_of_eq rfl) (hb hby at_103) rfl
    refine own_via (T' := T19) (g' := (mkF m 106 #[.val (.int p1), .val (.int (4 : Int32)), .val (.ref w_SERIALIZABLE), .val (.int (8 : Int32)), .val (.ref zz)] [(.int (8 : Int32))])) st19 ?_
    refine own_via (T' := T19) (g' := (mkF m 107 #[.val (.int p1), .val (.int (4 : Int32)), .val (.ref w_SERIALIZABLE), .val (.int (8 : Int32)), .val (.ref zz)] [(.int (8 : Int32)), (.int (8 : Int32))])) (fun t k => XS.iloadN X19.here hx rfl (hb hby at_106) rfl k) ?_
    refine own_via (T' := T19) (g' := (mkF m 110 #[.val (.int p1), .val (.int (4 : Int32)), .val (.ref w_SERIALIZABLE), .val (.int (8 : Int32)), .val (.ref zz)] [])) (fun t k => XS.icmpNo X19.here hx rfl (hb hby at_107) rfl (teq rfl).2 k) ?_
    refine own_via (T' := T19) (g' := (mkF m 111 #[.val (.int p1), .val (.int (4 : Int32)), .val (.ref w_SERIALIZABLE), .val (.int (8 : Int32)), .val (.ref zz)] [(.int (1 : Int32))])) (fun t k => XS.iconst X19.here hx rfl (hb hby at_110) k) ?_
    refine own_via (T' := T19) (g' := (mkF m 115 #[.val (.int p1), .val (.int (4 : Int32)), .val (.ref w_SERIALIZABLE), .val (.int (8 : Int32)), .val (.ref zz)] [(.int (1 : Int32))])) (fun t k => XS.goto X19.here hx rfl (pc0 := 111) (pc' := 115) rfl (hb hby at_111) (by decide) (by decide) k) ?_
    exact own_ret (t := .boolean) X19 hx Bd.returns hlk rfl (Or.inl ⟨rfl, by simp, _, rfl⟩) (hb hby at_115) (by decide) (by decide) ⟨rfl, N⟩
theorem own_sw {Z : State} {args : Array Value} {t : Term} {a : Addr} {cl : Cell} (et : ∀ idx, t.eval args Z none idx Z = some (.ref a)) (A : Arr Z Z.heap a cl .int) (j q : Int32) (hj : ¬ j < 0) (hl : j.toNatClampNeg < cl.slots.size) (hq : ∀ z : Int32, z.toInt64 = j.toInt64 + 1 → z = q)
    (h : (Cond.all t (.eq (.op1 .i2l (.elem t (.index 0))) (.op2 .ladd (.op1 .i2l (.index 0)) (.long 1)))).value args Z none Z [] = some true) : cl.slots[j.toNatClampNeg]? = some (.int q) := by
  have u := Cond.all_elim (et []) (A.fin (Vm.Alike.refl _)) h j.toNatClampNeg hl
  have e1 : (Term.op2 .ladd (.op1 .i2l (.index 0)) (.long 1)).eval args Z none [j.toNatClampNeg] Z = some (.long (j.toInt64 + 1)) := (op2_f (i2l_at (idx_at hj)) rfl).trans rfl
  obtain ⟨x, e2, e3⟩ := op1_v (eqv_l e1 u)
  rw [elem_f (et _) (idx_at hj) (A.fin (Vm.Alike.refl _)) hj] at e2
  cases x with
  | int z =>
    have e4 : z.toInt64 = j.toInt64 + 1 := Value.long.inj (Option.some.inj e3)
    rw [e2, hq z e4]
  | _ => cases e3
theorem own_sw1 (z : Int32) (j q : Int32) (hq : q.toInt64 = j.toInt64 + 1) (h : z.toInt64 = j.toInt64 + 1) : z = q := by
  rw [← hq] at h
  have e := congrArg Int64.toInt h
  rw [c_i2l, c_i2l] at e
  exact Int32.toInt_inj.mp e
set_option maxRecDepth 65536 in
set_option maxHeartbeats 40000000 in
theorem comes_1 {Post : Tables → Env → Array Value → State → Outcome → State → Prop} (hpost : ∀ tb e args s v u, (limb_1_1.after args s (.returned v) u = true ∧ limb_1_2.after args s (.returned v) u = true ∧ True) → FrameEnd s (.returned v) u (Jvm.fieldLocs frame_1_writes args s ++ Jvm.arrayLocs frame_1_arrays args s ++ Jvm.staticLocs frame_1_statics s) 16 128 → Post tb e args s (.returned v) u) :
    ArmFor flags0 classFile x code maxLocals ret World_1 tables_1 room_1 Calls_1 rest_1 Pre_1 Post := by
  intro l hfl _ _ p e ha hc hk s m args below hf hA hF happ hP
  obtain ⟨hcalls, hrest, hpre⟩ := hP
  obtain ⟨-, -, -, hnamed, -, -, -, hat⟩ := (Spec.applies_iff hf).mp happ
  obtain ⟨hg, hn⟩ := and_e (Cond.before_iff.mp (show (Jvm.Cond.and given_1 narrow_1).before args s = true from hpre))
  obtain ⟨g1a, g1b⟩ := and_e hg
  obtain ⟨w0, rfl⟩ : ∃ w0 : Value, args = #[w0] := by
    have hs : args.size = 1 := by simpa [Cond.value, given_1] using g1a
    obtain ⟨L⟩ := args
    match L, hs with
    | [w0], _ => exact ⟨w0, rfl⟩
  have hw := fun d (hd : d ∈ tables_1) => atoms_spec (ws := Jvm.Cond.code x code maxLocals ret :: tables_1) hat d (List.mem_cons_of_mem _ hd)
  have hfit : Fit s := fun {y c} hc i hi => by
    obtain ⟨ha, rfl⟩ := Array.getElem?_eq_some_iff.mp hc
    have q := List.all_eq_true.mp ((Array.all_eq_true_iff_forall_mem.mp hF) _ (Array.getElem_mem ha)) i (List.mem_range.mpr hi)
    simpa [Array.getElem?_eq_getElem hi] using q
  obtain ⟨hsets, hown0⟩ := atoms_of _ (rest_1_c_eq ▸ (show rest_1_c.before _ s = true from hrest))
  obtain ⟨i0, ei0⟩ := is_v g1b
  obtain rfl : w0 = (.int i0) := Option.some.inj ei0
  obtain ⟨g2a, g2b⟩ := and_e hn
  obtain ⟨g3a, g3b⟩ := and_e g2b
  obtain ⟨g4a, g4b⟩ := and_e g3b
  obtain ⟨g5a, g5b⟩ := and_e g4b
  obtain ⟨g6a, g6b⟩ := and_e g5b
  obtain ⟨g7a, g7b⟩ := and_e g6b
  obtain ⟨g8a, g8b⟩ := and_e g7b
  obtain ⟨g9a, g9b⟩ := and_e g8b
  obtain ⟨g10a, g10b⟩ := and_e g9b
  obtain ⟨g11a, g11b⟩ := and_e g10b
  obtain ⟨g12a, g12b⟩ := and_e g11b
  obtain ⟨g13a, g13b⟩ := and_e g12b
  obtain ⟨w_DEFAULT, ev_DEFAULT⟩ := exa_v g2a
  have E_DEFAULT := Exa.start ev_DEFAULT g2a
  have S_DEFAULT := Sta.start ev_DEFAULT (Or.inr ⟨(hw _ (List.mem_of_getElem? (i := 2) rfl)), (hw _ (List.mem_of_getElem? (i := 3) rfl))⟩)
  obtain ⟨w_REPEATABLE_READ, ev_REPEATABLE_READ⟩ := exa_v g6a
  have E_REPEATABLE_READ := Exa.start ev_REPEATABLE_READ g6a
  have S_REPEATABLE_READ := Sta.start ev_REPEATABLE_READ (Or.inr ⟨(hw _ (List.mem_of_getElem? (i := 2) rfl)), (hw _ (List.mem_of_getElem? (i := 33) rfl))⟩)
  obtain ⟨w_READ_UNCOMMITTED, ev_READ_UNCOMMITTED⟩ := exa_v g8a
  have E_READ_UNCOMMITTED := Exa.start ev_READ_UNCOMMITTED g8a
  have S_READ_UNCOMMITTED := Sta.start ev_READ_UNCOMMITTED (Or.inr ⟨(hw _ (List.mem_of_getElem? (i := 2) rfl)), (hw _ (List.mem_of_getElem? (i := 54) rfl))⟩)
  obtain ⟨w_SERIALIZABLE, ev_SERIALIZABLE⟩ := exa_v g10a
  have E_SERIALIZABLE := Exa.start ev_SERIALIZABLE g10a
  have S_SERIALIZABLE := Sta.start ev_SERIALIZABLE (Or.inr ⟨(hw _ (List.mem_of_getElem? (i := 2) rfl)), (hw _ (List.mem_of_getElem? (i := 56) rfl))⟩)
  obtain ⟨w_READ_COMMITTED, ev_READ_COMMITTED⟩ := exa_v g12a
  have E_READ_COMMITTED := Exa.start ev_READ_COMMITTED g12a
  have S_READ_COMMITTED := Sta.start ev_READ_COMMITTED (Or.inr ⟨(hw _ (List.mem_of_getElem? (i := 2) rfl)), (hw _ (List.mem_of_getElem? (i := 58) rfl))⟩)
  have O_DEFAULT := own_fld g5a ev_DEFAULT
  have O_REPEATABLE_READ := own_fld g7a ev_REPEATABLE_READ
  have O_READ_UNCOMMITTED := own_fld g9a ev_READ_UNCOMMITTED
  have O_SERIALIZABLE := own_fld g11a ev_SERIALIZABLE
  have O_READ_COMMITTED := own_fld g13a ev_READ_COMMITTED
  obtain ⟨sa, ev⟩ := arr_v g3a
  obtain ⟨cl, Ar⟩ := Arr.start ev g3a
  have SW := Sta.start ev (Or.inr ⟨(hw _ (List.mem_of_getElem? (i := 9) rfl)), (hw _ (List.mem_of_getElem? (i := 10) rfl))⟩)
  obtain ⟨hsz, hz⟩ := own_len ev Ar (own_evI g4a)
  have SZ := own_size hsz hz
  have el0 := own_sw (fun _ => ev) Ar (0 : Int32) (1 : Int32) (by decide) (by rw [SZ]; decide) (fun z q => own_sw1 z _ _ (by decide) q) g13b
  have el1 := own_sw (fun _ => ev) Ar (1 : Int32) (2 : Int32) (by decide) (by rw [SZ]; decide) (fun z q => own_sw1 z _ _ (by decide) q) g13b
  have el2 := own_sw (fun _ => ev) Ar (2 : Int32) (3 : Int32) (by decide) (by rw [SZ]; decide) (fun z q => own_sw1 z _ _ (by decide) q) g13b
  have el3 := own_sw (fun _ => ev) Ar (3 : Int32) (4 : Int32) (by decide) (by rw [SZ]; decide) (fun z q => own_sw1 z _ _ (by decide) q) g13b
  have el4 := own_sw (fun _ => ev) Ar (4 : Int32) (5 : Int32) (by decide) (by rw [SZ]; decide) (fun z q => own_sw1 z _ _ (by decide) q) g13b
  have k2 := Cond.before_iff.mp (hsets _ (List.mem_of_getElem? (i := 2) rfl))
  obtain ⟨wE, evE⟩ := exa_v k2
  have EE := Exa.start evE k2
  have SE := Sta.start evE (Or.inl (hsets _ (List.mem_of_getElem? (i := 1) rfl)))
  have FE := own_fld (Cond.before_iff.mp (hsets _ (List.mem_of_getElem? (i := 3) rfl))) evE
  obtain ⟨n, o, h1, h2, h3, _, L, rfl, hQ, hq⟩ := own_c0 l s _ hw i0 w_DEFAULT w_READ_UNCOMMITTED w_READ_COMMITTED w_REPEATABLE_READ w_SERIALIZABLE wE sa cl s.heap S_DEFAULT E_DEFAULT O_DEFAULT S_READ_UNCOMMITTED E_READ_UNCOMMITTED O_READ_UNCOMMITTED S_READ_COMMITTED E_READ_COMMITTED O_READ_COMMITTED S_REPEATABLE_READ E_REPEATABLE_READ O_REPEATABLE_READ S_SERIALIZABLE E_SERIALIZABLE O_SERIALIZABLE SE EE FE SW Ar SZ el0 el1 el2 el3 el4 p e ha hc hk s m _ below hf ((Spec.applies_iff_loose hf).mp happ).1 ⟨rfl, State.Warmed39.refl s, rfl⟩ trivial
  obtain ⟨rfl, N⟩ := own_fin hQ
  refine ⟨n, _, h1, h2, h3, hpost _ _ _ _ _ _ ⟨Cond.after_iff.mpr rfl, Cond.after_iff.mpr (eq_i res_at (Term.int_eval (1)) rfl), trivial⟩ ⟨hq.1, hq.2.1, (hq.2.2.sift fun y hy => Or.inr (N y hy)).mono (by decide) (by decide)⟩⟩
theorem main_1_1 : Claimed_1_1 := comes_1 fun _ _ _ _ _ _ h hF => ⟨h.1, hF⟩
theorem main_1_2 : Claimed_1_2 := comes_1 fun _ _ _ _ _ _ h hF => ⟨h.2.1, hF⟩
end Jvm.Pilot.@@N@@
namespace Jvm.Pilot.@@N@@
open Jvm Jvm.ClassFile Sem Op Lib Jvm.Free Jvm.Stand Jvm.Pilot.@@N@@.Jvm.D
/-! MADE BY PROGRAM (witnessworld.py) out of the Statement's table words and the real class files: 15 classes; the members and pool entries that the words name. The judged class is class 1, her method 1. -/
namespace start1
open Jvm.ClassFile
def u (s : String) : CpInfo := .utf8 (stringToUtf16 s)
/-- a pool by its gaps: so many unusable entries, then the entry; so many at the end -/
def gap : Nat → List CpInfo → List CpInfo
  | 0, r => r
  | n + 1, r => .unusable :: gap n r
def poolList (es : List (Nat × CpInfo)) (last : Nat) : List CpInfo := es.foldr (fun e r => gap e.1 (e.2 :: r)) (gap last [])
def pool (es : List (Nat × CpInfo)) (last : Nat) : Array CpInfo := ⟨poolList es last⟩
def fileOf (pool : Array CpInfo) (this : Nat) (attrs : Array Attribute := #[]) (ms : Array MethodInfo := #[]) (fl : Nat := 33) (sup : Nat := 0) (ifs : Array Nat := #[]) (fds : Array FieldInfo := #[]) : ClassFile where
  minorVersion := 0
  majorVersion := 65
  constantPool := pool
  accessFlags := fl
  thisClass := this
  superClass := sup
  interfaces := ifs
  fields := fds
  methods := ms
  attributes := attrs
def plain (name : String) (sup : Option ClassId) : Class where
  name := name
  kind := .ordinary
  loader := none
  accessFlags := 33
  super := sup
  interfaces := #[]
  cf := none
  fields := #[]
  methods := #[]
  instanceTypes := #[]
  staticTypes := #[]
  resolved := #[]
  callSites := []
  init := .initialized
  statics := none
  mirror := none

def pool0 : Array CpInfo := pool [(5, u "<init>"), (0, u "()V"), (1, .class_ 10), (1, u "java/lang/Object")] 113

def k0c0 : Code := { maxStack := 0, maxLocals := 1, code := object_method_1_code, exceptionTable := #[], attributes := #[] }
def k0m0 : Method := { name := "<init>", desc := "()V", sig := { parameters := [], returnType := none }, accessFlags := 1, code := some k0c0 }
/-- java/lang/Object -/
def k0 : Class := { plain "java/lang/Object" none with
  accessFlags := 33
  interfaces := #[]
  cf := some (fileOf pool0 8 #[] #[{ accessFlags := 1, nameIndex := 5, descriptorIndex := 6, attributes := #[] }] 33 0 #[] #[])
  fields := #[]
  methods := #[k0m0]
  instanceTypes := #[]
  staticTypes := #[]
  resolved := Array.replicate 124 none
  statics := none }

def pool1 : Array CpInfo := pool [(2, .class_ 4), (1, u "java/lang/Object"), (0, u "<init>"), (0, u "()V"), (0, .integer 2147483647), (0, .fieldref 9 10), (0, .class_ 11), (0, .nameAndType 12 13), (0, u "com/example/join_or_begin/joinorbegin/Isolation"), (0, u "DEFAULT"), (0, u "Lcom/example/join_or_begin/joinorbegin/Isolation;"), (0, .fieldref 9 15), (0, .nameAndType 16 13), (0, u "READ_UNCOMMITTED"), (0, .fieldref 9 18), (0, .nameAndType 19 13), (0, u "READ_COMMITTED"), (0, .fieldref 9 21), (0, .nameAndType 22 13), (0, u "REPEATABLE_READ"), (0, .fieldref 9 24), (0, .nameAndType 25 13), (0, u "SERIALIZABLE"), (0, .methodref 27 28), (0, .class_ 29), (0, .nameAndType 30 31), (0, u "com/example/join_or_begin/joinorbegin/jdbc/JdbcIsolation"), (0, u "levelOf"), (0, u "(Lcom/example/join_or_begin/joinorbegin/Isolation;)Ljava/util/OptionalInt;"), (0, .methodref 33 34), (0, .class_ 35), (0, .nameAndType 36 37), (0, u "java/util/OptionalInt"), (0, u "isPresent"), (0, u "()Z"), (0, .methodref 33 39), (0, .nameAndType 40 41), (0, u "getAsInt"), (0, u "()I"), (0, .class_ 43), (0, u "com/example/join_or_begin/joinorbegin/jdbc/JdbcIsolationLevelOfPinLaw"), (2, u "law"), (0, u "(I)Z")] 3

def k1m0 : Method := { name := "<init>", desc := "()V", sig := { parameters := [], returnType := none }, accessFlags := 2, code := none }
def k1c1 : Code := { maxStack := 2, maxLocals := 5, code := code, exceptionTable := #[], attributes := #[] }
def k1m1 : Method := { name := "law", desc := "(I)Z", sig := { parameters := [.int], returnType := some .boolean }, accessFlags := 9, code := some k1c1 }
/-- com/example/join_or_begin/joinorbegin/jdbc/JdbcIsolationLevelOfPinLaw -/
def k1 : Class := { plain "com/example/join_or_begin/joinorbegin/jdbc/JdbcIsolationLevelOfPinLaw" (some 0) with
  accessFlags := 49
  interfaces := #[]
  cf := some (fileOf pool1 42 #[] #[{ accessFlags := 2, nameIndex := 5, descriptorIndex := 6, attributes := #[] }, { accessFlags := 9, nameIndex := 46, descriptorIndex := 47, attributes := #[] }] 49 2 #[] #[])
  fields := #[]
  methods := #[k1m0, k1m1]
  instanceTypes := #[]
  staticTypes := #[]
  resolved := Array.replicate 51 none
  statics := none }

def pool2 : Array CpInfo := pool [(1, .class_ 2), (0, u "java/lang/constant/Constable"), (0, .class_ 4), (0, u "java/lang/Object")] 6

/-- java/lang/constant/Constable -/
def k2 : Class := { plain "java/lang/constant/Constable" (some 0) with
  accessFlags := 1537
  interfaces := #[]
  cf := some (fileOf pool2 1 #[] #[] 1537 3 #[] #[])
  fields := #[]
  methods := #[]
  instanceTypes := #[]
  staticTypes := #[]
  resolved := Array.replicate 11 none
  statics := none }

def pool3 : Array CpInfo := pool [(1, .class_ 2), (0, u "java/lang/Comparable"), (0, .class_ 4), (0, u "java/lang/Object")] 7

/-- java/lang/Comparable -/
def k3 : Class := { plain "java/lang/Comparable" (some 0) with
  accessFlags := 1537
  interfaces := #[]
  cf := some (fileOf pool3 1 #[] #[] 1537 3 #[] #[])
  fields := #[]
  methods := #[]
  instanceTypes := #[]
  staticTypes := #[]
  resolved := Array.replicate 12 none
  statics := none }

def pool4 : Array CpInfo := pool [(1, .class_ 2), (0, u "java/io/Serializable"), (0, .class_ 4), (0, u "java/lang/Object")] 2

/-- java/io/Serializable -/
def k4 : Class := { plain "java/io/Serializable" (some 0) with
  accessFlags := 1537
  interfaces := #[]
  cf := some (fileOf pool4 1 #[] #[] 1537 3 #[] #[])
  fields := #[]
  methods := #[]
  instanceTypes := #[]
  staticTypes := #[]
  resolved := Array.replicate 7 none
  statics := none }

def pool5 : Array CpInfo := pool [(2, .class_ 4), (1, u "java/lang/Enum"), (0, u "name"), (0, u "Ljava/lang/String;"), (0, .fieldref 2 8), (0, .nameAndType 9 10), (0, u "ordinal"), (0, u "I"), (1, .class_ 14), (1, u "java/lang/Object"), (4, u "hash"), (86, .class_ 108), (1, u "java/lang/Enum$EnumDesc"), (2, .class_ 112), (0, u "java/lang/constant/Constable"), (0, .class_ 114), (0, u "java/lang/Comparable"), (0, .class_ 116), (0, u "java/io/Serializable"), (9, u "()I")] 77

def k5c0 : Code := { maxStack := 1, maxLocals := 1, code := jdk_37_method_2_code, exceptionTable := #[], attributes := #[] }
def k5m0 : Method := { name := "ordinal", desc := "()I", sig := { parameters := [], returnType := some .int }, accessFlags := 17, code := some k5c0 }
/-- java/lang/Enum -/
def k5 : Class := { plain "java/lang/Enum" (some 0) with
  accessFlags := 1057
  interfaces := #[2, 3, 4]
  cf := some (fileOf pool5 2 #[.nestMembers #[106]] #[{ accessFlags := 17, nameIndex := 9, descriptorIndex := 126, attributes := #[] }] 1057 12 #[111, 113, 115] #[{ accessFlags := 18, nameIndex := 5, descriptorIndex := 6, attributes := #[] }, { accessFlags := 18, nameIndex := 9, descriptorIndex := 10, attributes := #[] }, { accessFlags := 2, nameIndex := 19, descriptorIndex := 10, attributes := #[] }])
  fields := #[{ name := "name", type := (.object "java/lang/String"), accessFlags := 18, slot := 0, constantValue := 0 }, { name := "ordinal", type := .int, accessFlags := 18, slot := 1, constantValue := 0 }, { name := "hash", type := .int, accessFlags := 2, slot := 2, constantValue := 0 }]
  methods := #[k5m0]
  instanceTypes := #[(.object "java/lang/String"), .int, .int]
  staticTypes := #[]
  resolved := Array.replicate 204 none
  statics := none }

def pool6 : Array CpInfo := pool [(1, .class_ 2), (0, u "com/example/join_or_begin/joinorbegin/Isolation"), (2, u "DEFAULT"), (0, u "Lcom/example/join_or_begin/joinorbegin/Isolation;"), (2, u "READ_UNCOMMITTED"), (2, u "READ_COMMITTED"), (2, u "REPEATABLE_READ"), (2, u "SERIALIZABLE"), (2, u "$VALUES"), (0, u "[Lcom/example/join_or_begin/joinorbegin/Isolation;"), (6, .class_ 31), (1, u "java/lang/Enum")] 27

/-- com/example/join_or_begin/joinorbegin/Isolation -/
def k6 : Class := { plain "com/example/join_or_begin/joinorbegin/Isolation" (some 5) with
  accessFlags := 16433
  interfaces := #[]
  cf := some (fileOf pool6 1 #[] #[] 16433 29 #[] #[{ accessFlags := 16409, nameIndex := 5, descriptorIndex := 6, attributes := #[] }, { accessFlags := 16409, nameIndex := 9, descriptorIndex := 6, attributes := #[] }, { accessFlags := 16409, nameIndex := 12, descriptorIndex := 6, attributes := #[] }, { accessFlags := 16409, nameIndex := 15, descriptorIndex := 6, attributes := #[] }, { accessFlags := 16409, nameIndex := 18, descriptorIndex := 6, attributes := #[] }, { accessFlags := 4122, nameIndex := 21, descriptorIndex := 22, attributes := #[] }])
  fields := #[{ name := "DEFAULT", type := (.object "com/example/join_or_begin/joinorbegin/Isolation"), accessFlags := 16409, slot := 0, constantValue := 0 }, { name := "READ_UNCOMMITTED", type := (.object "com/example/join_or_begin/joinorbegin/Isolation"), accessFlags := 16409, slot := 1, constantValue := 0 }, { name := "READ_COMMITTED", type := (.object "com/example/join_or_begin/joinorbegin/Isolation"), accessFlags := 16409, slot := 2, constantValue := 0 }, { name := "REPEATABLE_READ", type := (.object "com/example/join_or_begin/joinorbegin/Isolation"), accessFlags := 16409, slot := 3, constantValue := 0 }, { name := "SERIALIZABLE", type := (.object "com/example/join_or_begin/joinorbegin/Isolation"), accessFlags := 16409, slot := 4, constantValue := 0 }, { name := "$VALUES", type := (.array (.object "com/example/join_or_begin/joinorbegin/Isolation")), accessFlags := 4122, slot := 5, constantValue := 0 }]
  methods := #[]
  instanceTypes := #[(.object "java/lang/String"), .int, .int]
  staticTypes := #[(.object "com/example/join_or_begin/joinorbegin/Isolation"), (.object "com/example/join_or_begin/joinorbegin/Isolation"), (.object "com/example/join_or_begin/joinorbegin/Isolation"), (.object "com/example/join_or_begin/joinorbegin/Isolation"), (.object "com/example/join_or_begin/joinorbegin/Isolation"), (.array (.object "com/example/join_or_begin/joinorbegin/Isolation"))]
  resolved := Array.replicate 59 none
  statics := some 0 }

def pool7 : Array CpInfo := pool [(2, .class_ 4), (1, u "java/lang/Object"), (0, u "<init>"), (0, u "()V"), (0, .fieldref 8 9), (0, .class_ 10), (0, .nameAndType 11 12), (0, u "com/example/join_or_begin/joinorbegin/jdbc/JdbcIsolation$1"), (0, u "$SwitchMap$com$example$join_or_begin$joinorbegin$Isolation"), (0, u "[I"), (0, .methodref 14 15), (0, .class_ 16), (0, .nameAndType 17 18), (0, u "com/example/join_or_begin/joinorbegin/Isolation"), (0, u "ordinal"), (0, u "()I"), (5, .methodref 25 26), (0, .class_ 27), (0, .nameAndType 28 29), (0, u "java/util/OptionalInt"), (0, u "empty"), (0, u "()Ljava/util/OptionalInt;"), (2, .methodref 25 33), (0, .nameAndType 34 35), (0, u "of"), (0, u "(I)Ljava/util/OptionalInt;"), (0, .class_ 37), (0, u "com/example/join_or_begin/joinorbegin/jdbc/JdbcIsolation"), (2, u "levelOf"), (0, u "(Lcom/example/join_or_begin/joinorbegin/Isolation;)Ljava/util/OptionalInt;")] 5

def k7m0 : Method := { name := "<init>", desc := "()V", sig := { parameters := [], returnType := none }, accessFlags := 2, code := none }
def k7c1 : Code := { maxStack := 4, maxLocals := 1, code := prog_30_method_2_code, exceptionTable := #[], attributes := #[] }
def k7m1 : Method := { name := "levelOf", desc := "(Lcom/example/join_or_begin/joinorbegin/Isolation;)Ljava/util/OptionalInt;", sig := { parameters := [(.object "com/example/join_or_begin/joinorbegin/Isolation")], returnType := some (.object "java/util/OptionalInt") }, accessFlags := 8, code := some k7c1 }
/-- com/example/join_or_begin/joinorbegin/jdbc/JdbcIsolation -/
def k7 : Class := { plain "com/example/join_or_begin/joinorbegin/jdbc/JdbcIsolation" (some 0) with
  accessFlags := 32
  interfaces := #[]
  cf := some (fileOf pool7 36 #[.nestMembers #[8]] #[{ accessFlags := 2, nameIndex := 5, descriptorIndex := 6, attributes := #[] }, { accessFlags := 8, nameIndex := 40, descriptorIndex := 41, attributes := #[] }] 32 2 #[] #[])
  fields := #[]
  methods := #[k7m0, k7m1]
  instanceTypes := #[]
  staticTypes := #[]
  resolved := Array.replicate 47 none
  statics := none }

def pool8 : Array CpInfo := pool [(8, .class_ 10), (1, u "com/example/join_or_begin/joinorbegin/jdbc/JdbcIsolation$1"), (0, u "$SwitchMap$com$example$join_or_begin$joinorbegin$Isolation"), (0, u "[I"), (22, .class_ 36), (0, u "java/lang/Object"), (8, .class_ 46), (0, u "com/example/join_or_begin/joinorbegin/jdbc/JdbcIsolation")] 2

/-- com/example/join_or_begin/joinorbegin/jdbc/JdbcIsolation$1 -/
def k8 : Class := { plain "com/example/join_or_begin/joinorbegin/jdbc/JdbcIsolation$1" (some 0) with
  accessFlags := 4128
  interfaces := #[]
  cf := some (fileOf pool8 8 #[.nestHost 45] #[] 4128 35 #[] #[{ accessFlags := 4120, nameIndex := 11, descriptorIndex := 12, attributes := #[] }])
  fields := #[{ name := "$SwitchMap$com$example$join_or_begin$joinorbegin$Isolation", type := (.array .int), accessFlags := 4120, slot := 0, constantValue := 0 }]
  methods := #[]
  instanceTypes := #[]
  staticTypes := #[(.array .int)]
  resolved := Array.replicate 49 none
  statics := some 1 }

def pool9 : Array CpInfo := pool [(1, .methodref 2 3), (0, .class_ 4), (0, .nameAndType 5 6), (0, u "java/lang/Object"), (0, u "<init>"), (0, u "()V"), (0, .fieldref 8 9), (0, .class_ 10), (0, .nameAndType 11 12), (0, u "java/util/OptionalInt"), (0, u "isPresent"), (0, u "Z"), (0, .fieldref 8 14), (0, .nameAndType 15 16), (0, u "value"), (0, u "I"), (0, .fieldref 8 18), (0, .nameAndType 19 20), (0, u "EMPTY"), (0, u "Ljava/util/OptionalInt;"), (0, .methodref 8 22), (0, .nameAndType 5 23), (0, u "(I)V"), (21, u "of"), (3, u "empty"), (5, u "getAsInt"), (0, u "()I"), (39, u "()Ljava/util/OptionalInt;"), (0, u "(I)Ljava/util/OptionalInt;"), (1, u "()Z")] 36

def k9m0 : Method := { name := "<init>", desc := "()V", sig := { parameters := [], returnType := none }, accessFlags := 2, code := none }
def k9c1 : Code := { maxStack := 1, maxLocals := 0, code := jdk_2649_method_2_code, exceptionTable := #[], attributes := #[] }
def k9m1 : Method := { name := "empty", desc := "()Ljava/util/OptionalInt;", sig := { parameters := [], returnType := some (.object "java/util/OptionalInt") }, accessFlags := 9, code := some k9c1 }
def k9c2 : Code := { maxStack := 2, maxLocals := 2, code := jdk_2649_method_3_code, exceptionTable := #[], attributes := #[] }
def k9m2 : Method := { name := "<init>", desc := "(I)V", sig := { parameters := [.int], returnType := none }, accessFlags := 2, code := some k9c2 }
def k9c3 : Code := { maxStack := 3, maxLocals := 1, code := jdk_2649_method_4_code, exceptionTable := #[], attributes := #[] }
def k9m3 : Method := { name := "of", desc := "(I)Ljava/util/OptionalInt;", sig := { parameters := [.int], returnType := some (.object "java/util/OptionalInt") }, accessFlags := 9, code := some k9c3 }
def k9c4 : Code := { maxStack := 3, maxLocals := 1, code := jdk_2649_method_5_code, exceptionTable := #[], attributes := #[] }
def k9m4 : Method := { name := "getAsInt", desc := "()I", sig := { parameters := [], returnType := some .int }, accessFlags := 1, code := some k9c4 }
def k9c5 : Code := { maxStack := 1, maxLocals := 1, code := jdk_2649_method_6_code, exceptionTable := #[], attributes := #[] }
def k9m5 : Method := { name := "isPresent", desc := "()Z", sig := { parameters := [], returnType := some .boolean }, accessFlags := 1, code := some k9c5 }
/-- java/util/OptionalInt -/
def k9 : Class := { plain "java/util/OptionalInt" (some 0) with
  accessFlags := 49
  interfaces := #[]
  cf := some (fileOf pool9 8 #[] #[{ accessFlags := 2, nameIndex := 5, descriptorIndex := 6, attributes := #[] }, { accessFlags := 9, nameIndex := 49, descriptorIndex := 96, attributes := #[] }, { accessFlags := 2, nameIndex := 5, descriptorIndex := 23, attributes := #[] }, { accessFlags := 9, nameIndex := 45, descriptorIndex := 97, attributes := #[] }, { accessFlags := 1, nameIndex := 55, descriptorIndex := 56, attributes := #[] }, { accessFlags := 1, nameIndex := 11, descriptorIndex := 99, attributes := #[] }] 49 2 #[] #[{ accessFlags := 26, nameIndex := 19, descriptorIndex := 20, attributes := #[] }, { accessFlags := 18, nameIndex := 11, descriptorIndex := 12, attributes := #[] }, { accessFlags := 18, nameIndex := 15, descriptorIndex := 16, attributes := #[] }])
  fields := #[{ name := "EMPTY", type := (.object "java/util/OptionalInt"), accessFlags := 26, slot := 0, constantValue := 0 }, { name := "isPresent", type := .boolean, accessFlags := 18, slot := 0, constantValue := 0 }, { name := "value", type := .int, accessFlags := 18, slot := 1, constantValue := 0 }]
  methods := #[k9m0, k9m1, k9m2, k9m3, k9m4, k9m5]
  instanceTypes := #[.boolean, .int]
  staticTypes := #[(.object "java/util/OptionalInt")]
  resolved := Array.replicate 136 none
  statics := some 2 }

def pool10 : Array CpInfo := pool [(1, u "java/lang/Cloneable"), (0, .class_ 1), (0, u "java/lang/Object"), (0, .class_ 3)] 3

/-- java/lang/Cloneable -/
def k10 : Class := { plain "java/lang/Cloneable" (some 0) with
  accessFlags := 1537
  interfaces := #[]
  cf := some (fileOf pool10 2 #[] #[] 1537 4 #[] #[])
  fields := #[]
  methods := #[]
  instanceTypes := #[]
  staticTypes := #[]
  resolved := Array.replicate 8 none
  statics := none }

/-- the primitive byte -/
def k11 : Class := { plain "byte" none with kind := .primitive 'B', accessFlags := 0x411 }
/-- [B -/
def k12 : Class := { plain "[B" (some 0) with kind := .array 11 .byte, interfaces := #[10, 4], accessFlags := 1041 }

/-- the primitive int -/
def k13 : Class := { plain "int" none with kind := .primitive 'I', accessFlags := 0x411 }
/-- [I -/
def k14 : Class := { plain "[I" (some 0) with kind := .array 13 .int, interfaces := #[10, 4], accessFlags := 1041 }

def heap : Heap := #[{ cls := 6, slots := #[.ref 3, .ref 4, .ref 5, .ref 6, .ref 7, .null], vm := .statics 6 },
  { cls := 8, slots := #[.ref 8], vm := .statics 8 },
  { cls := 9, slots := #[.ref 9], vm := .statics 9 },
  { cls := 6, slots := #[.null, .int 0, .int 0], vm := .none },
  { cls := 6, slots := #[.null, .int 1, .int 0], vm := .none },
  { cls := 6, slots := #[.null, .int 2, .int 0], vm := .none },
  { cls := 6, slots := #[.null, .int 3, .int 0], vm := .none },
  { cls := 6, slots := #[.null, .int 4, .int 0], vm := .none },
  { cls := 14, slots := #[.int 1, .int 2, .int 3, .int 4, .int 5], vm := .none },
  { cls := 9, slots := #[.int 0, .int 0], vm := .none }]
def classes : Array Class := #[k0, k1, k2, k3, k4, k5, k6, k7, k8, k9, k10, k11, k12, k13, k14]
def interned : List (Array UInt16 × Addr) := []
def slotsUsed : Nat := 30
def theMethod : MethodId := ⟨1, 1⟩
def args0 : Array Value := #[.int 5]
def aboutOver (below : List Frame) : State where
  vm := { classes := classes, interned := interned.toArray }
  heap := heap
  slotsUsed := slotsUsed
  threads := #[{ frames := .invoking theMethod args0 :: below }]
def below0 : List Frame := [.native { method := ⟨0, 0⟩, args := #[] }]
def about1 : State := aboutOver below0
def p0 : Program := .bare "" "" ""
def e0 : Env := launch0.env 0 0 0
theorem w_frames : about1.frames = Frame.invoking theMethod args0 :: below0 := rfl
set_option maxRecDepth 65536 in
theorem w_args : argsFit about1.vm theMethod args0 = true := by decide +kernel
set_option maxRecDepth 65536 in
theorem w_heap : heapFits about1 = true := by decide +kernel
set_option maxRecDepth 65536 in
theorem w_runnable : about1.curStatus? = some .runnable := by decide +kernel
set_option maxRecDepth 65536 in
theorem w_alone : about1.alone = true := by decide +kernel
set_option maxRecDepth 65536 in
theorem w_named : about1.methodNamed? x = some theMethod := by decide +kernel
set_option maxRecDepth 65536 in
theorem w_hears : about1.hears theMethod below0 = true := by decide +kernel
set_option maxRecDepth 65536 in
theorem w_ripe : about1.ripe theMethod args0 below0 = true := by decide +kernel
theorem w_running : about1.status = .running := rfl
set_option maxRecDepth 65536 in
theorem w_room : about1.hasRoom e0.platform room_1 = true :=
  launch0.hasRoom_least _ room_1 (by decide +kernel) (by decide +kernel) (by decide +kernel) (by decide +kernel) (by decide +kernel) (by decide +kernel)
theorem allAtoms_all (ts : List Jvm.Cond) (a : Array Jvm.Value) (st : Jvm.State) : (allAtoms ts).before a st = ts.all (fun c => c.before a st) := by
  induction ts with
  | nil => rfl
  | cons c t ih =>
    show (Jvm.Cond.and c (allAtoms t)).before a st = _
    rw [Jvm.Cond.before_and, ih, List.all_cons]
def words1 : List Jvm.Cond := Jvm.Cond.code x code maxLocals ret :: tables_1
/-- a 'code' word, met by the world's own term for the bytes: nothing is compared byte by byte -/
theorem code_word {y : MethodName} {bytes : ByteArray} {mx : Nat} {rt : Option FieldType} {a : Array Value} {s : State} {m : MethodId} {meth : Method} {c : Code} (h1 : s.methodNamed? y = some m) (h2 : s.vm.method? m = some meth) (h3 : meth.code = some c) (h4 : c.code = bytes)
    (h5 : (c.maxLocals == mx && c.exceptionTable.isEmpty && decide (c.maxStack ≤ mostOperands) && decide (meth.sig.returnType = rt) && !meth.locks && decide (parseMethodDescriptor y.desc = some meth.sig)) = true) : (Jvm.Cond.code y bytes mx rt).before a s = true := by
  simp only [Bool.and_eq_true, beq_iff_eq, Bool.not_eq_true', decide_eq_true_eq] at h5
  obtain ⟨⟨⟨⟨⟨g1, g2⟩, g3⟩, g4⟩, g5⟩, g6⟩ := h5
  simp [Cond.before, Cond.holds, Cond.value, h1, h2, h3, h4, g1, g2, g3, g4, g5, g6]
def isCode : Jvm.Cond → Bool
  | .code _ _ _ _ => true
  | _ => false
theorem all_split {L : List Jvm.Cond} {P : Jvm.Cond → Bool} (h1 : L.all (fun c => isCode c || P c) = true) (h2 : ∀ c ∈ L.filter isCode, P c = true) : L.all P = true := by
  refine List.all_eq_true.mpr fun c hc => ?_
  have h := List.all_eq_true.mp h1 c hc
  rcases Bool.eq_false_or_eq_true (isCode c) with hi | hi
  · exact h2 c (List.mem_filter.mpr ⟨hc, hi⟩)
  · simpa [hi] using h
set_option maxRecDepth 65536 in
theorem w_c0 : (Jvm.Cond.code x code maxLocals ret).before args0 about1 = true := code_word (m := ⟨1, 1⟩) (meth := k1m1) (c := k1c1) (by decide +kernel) rfl rfl rfl (by decide +kernel)
set_option maxRecDepth 65536 in
theorem w_c1 : (Jvm.Cond.code ({ cls := "com/example/join_or_begin/joinorbegin/jdbc/JdbcIsolation", name := "levelOf", desc := "(Lcom/example/join_or_begin/joinorbegin/Isolation;)Ljava/util/OptionalInt;" } : Jvm.MethodName) prog_30_method_2_code (1 : Nat) (Option.some (Jvm.ClassFile.FieldType.object "java/util/OptionalInt"))).before args0 about1 = true := code_word (m := ⟨7, 1⟩) (meth := k7m1) (c := k7c1) (by decide +kernel) rfl rfl rfl (by decide +kernel)
set_option maxRecDepth 65536 in
theorem w_c2 : (Jvm.Cond.code ({ cls := "java/lang/Enum", name := "ordinal", desc := "()I" } : Jvm.MethodName) jdk_37_method_2_code (1 : Nat) (Option.some Jvm.ClassFile.FieldType.int)).before args0 about1 = true := code_word (m := ⟨5, 0⟩) (meth := k5m0) (c := k5c0) (by decide +kernel) rfl rfl rfl (by decide +kernel)
set_option maxRecDepth 65536 in
theorem w_c3 : (Jvm.Cond.code ({ cls := "java/util/OptionalInt", name := "empty", desc := "()Ljava/util/OptionalInt;" } : Jvm.MethodName) jdk_2649_method_2_code (0 : Nat) (Option.some (Jvm.ClassFile.FieldType.object "java/util/OptionalInt"))).before args0 about1 = true := code_word (m := ⟨9, 1⟩) (meth := k9m1) (c := k9c1) (by decide +kernel) rfl rfl rfl (by decide +kernel)
set_option maxRecDepth 65536 in
theorem w_c4 : (Jvm.Cond.code ({ cls := "java/util/OptionalInt", name := "isPresent", desc := "()Z" } : Jvm.MethodName) jdk_2649_method_6_code (1 : Nat) (Option.some Jvm.ClassFile.FieldType.boolean)).before args0 about1 = true := code_word (m := ⟨9, 5⟩) (meth := k9m5) (c := k9c5) (by decide +kernel) rfl rfl rfl (by decide +kernel)
set_option maxRecDepth 65536 in
theorem w_c5 : (Jvm.Cond.code ({ cls := "java/util/OptionalInt", name := "of", desc := "(I)Ljava/util/OptionalInt;" } : Jvm.MethodName) jdk_2649_method_4_code (1 : Nat) (Option.some (Jvm.ClassFile.FieldType.object "java/util/OptionalInt"))).before args0 about1 = true := code_word (m := ⟨9, 3⟩) (meth := k9m3) (c := k9c3) (by decide +kernel) rfl rfl rfl (by decide +kernel)
set_option maxRecDepth 65536 in
theorem w_c6 : (Jvm.Cond.code ({ cls := "java/util/OptionalInt", name := "<init>", desc := "(I)V" } : Jvm.MethodName) jdk_2649_method_3_code (2 : Nat) (Option.none : Option Jvm.ClassFile.FieldType)).before args0 about1 = true := code_word (m := ⟨9, 2⟩) (meth := k9m2) (c := k9c2) (by decide +kernel) rfl rfl rfl (by decide +kernel)
set_option maxRecDepth 65536 in
theorem w_c7 : (Jvm.Cond.code ({ cls := "java/lang/Object", name := "<init>", desc := "()V" } : Jvm.MethodName) object_method_1_code (1 : Nat) (Option.none : Option Jvm.ClassFile.FieldType)).before args0 about1 = true := code_word (m := ⟨0, 0⟩) (meth := k0m0) (c := k0c0) (by decide +kernel) rfl rfl rfl (by decide +kernel)
set_option maxRecDepth 65536 in
theorem w_c8 : (Jvm.Cond.code ({ cls := "java/util/OptionalInt", name := "getAsInt", desc := "()I" } : Jvm.MethodName) jdk_2649_method_5_code (1 : Nat) (Option.some Jvm.ClassFile.FieldType.int)).before args0 about1 = true := code_word (m := ⟨9, 4⟩) (meth := k9m4) (c := k9c4) (by decide +kernel) rfl rfl rfl (by decide +kernel)
def codes1 : List Jvm.Cond := [Jvm.Cond.code x code maxLocals ret, Jvm.Cond.code ({ cls := "com/example/join_or_begin/joinorbegin/jdbc/JdbcIsolation", name := "levelOf", desc := "(Lcom/example/join_or_begin/joinorbegin/Isolation;)Ljava/util/OptionalInt;" } : Jvm.MethodName) prog_30_method_2_code (1 : Nat) (Option.some (Jvm.ClassFile.FieldType.object "java/util/OptionalInt")), Jvm.Cond.code ({ cls := "java/lang/Enum", name := "ordinal", desc := "()I" } : Jvm.MethodName) jdk_37_method_2_code (1 : Nat) (Option.some Jvm.ClassFile.FieldType.int), Jvm.Cond.code ({ cls := "java/util/OptionalInt", name := "empty", desc := "()Ljava/util/OptionalInt;" } : Jvm.MethodName) jdk_2649_method_2_code (0 : Nat) (Option.some (Jvm.ClassFile.FieldType.object "java/util/OptionalInt")), Jvm.Cond.code ({ cls := "java/util/OptionalInt", name := "isPresent", desc := "()Z" } : Jvm.MethodName) jdk_2649_method_6_code (1 : Nat) (Option.some Jvm.ClassFile.FieldType.boolean), Jvm.Cond.code ({ cls := "java/util/OptionalInt", name := "of", desc := "(I)Ljava/util/OptionalInt;" } : Jvm.MethodName) jdk_2649_method_4_code (1 : Nat) (Option.some (Jvm.ClassFile.FieldType.object "java/util/OptionalInt")), Jvm.Cond.code ({ cls := "java/util/OptionalInt", name := "<init>", desc := "(I)V" } : Jvm.MethodName) jdk_2649_method_3_code (2 : Nat) (Option.none : Option Jvm.ClassFile.FieldType), Jvm.Cond.code ({ cls := "java/lang/Object", name := "<init>", desc := "()V" } : Jvm.MethodName) object_method_1_code (1 : Nat) (Option.none : Option Jvm.ClassFile.FieldType), Jvm.Cond.code ({ cls := "java/util/OptionalInt", name := "getAsInt", desc := "()I" } : Jvm.MethodName) jdk_2649_method_5_code (1 : Nat) (Option.some Jvm.ClassFile.FieldType.int)]
set_option maxRecDepth 65536 in
theorem codes_eq : words1.filter isCode = codes1 := rfl
theorem w_codes : ∀ c ∈ words1.filter isCode, c.before args0 about1 = true := by
  rw [codes_eq]
  intro c hc
  simp only [codes1, List.mem_cons, List.not_mem_nil, or_false] at hc
  rcases hc with rfl | rfl | rfl | rfl | rfl | rfl | rfl | rfl | rfl
  · exact w_c0
  · exact w_c1
  · exact w_c2
  · exact w_c3
  · exact w_c4
  · exact w_c5
  · exact w_c6
  · exact w_c7
  · exact w_c8
set_option maxRecDepth 65536 in
theorem w_t1 : (words1.take 24).all (fun c => isCode c || c.before args0 about1) = true := by decide +kernel
set_option maxRecDepth 65536 in
theorem w_t2 : ((words1.drop 24).take 24).all (fun c => isCode c || c.before args0 about1) = true := by decide +kernel
set_option maxRecDepth 65536 in
theorem w_t3 : ((words1.drop 24).drop 24).all (fun c => isCode c || c.before args0 about1) = true := by decide +kernel
theorem w_tables : (allAtoms (Jvm.Cond.code x code maxLocals ret :: tables_1)).before args0 about1 = true := by
  rw [allAtoms_all]
  show words1.all (fun c => c.before args0 about1) = true
  refine all_split ?_ w_codes
  rw [← List.take_append_drop 24 words1, List.all_append, w_t1, ← List.take_append_drop 24 (words1.drop 24), List.all_append, w_t2, w_t3]
  rfl
set_option maxRecDepth 65536 in
theorem w_rest : rest_1_c.before args0 about1 = true := by decide +kernel
set_option maxRecDepth 65536 in
theorem w_case : (Jvm.Cond.and given_1 narrow_1).before args0 about1 = true := by decide +kernel
theorem w_applies : (headSpec (Jvm.Cond.code x code maxLocals ret :: tables_1) room_1).applies x e0.platform about1 = true :=
  (Spec.applies_iff w_frames).mpr ⟨w_running, w_runnable, w_alone, w_named, w_hears, w_ripe, w_room, w_tables⟩
theorem atStart : AtStart classFile x code maxLocals ret World_1 tables_1 room_1 Calls_1 rest_1 Pre_1 launch0 p0 e0 about1 theMethod args0 below0 :=
  ⟨lists_1, trivial, launch0.admits_env _ _ _, launch0.least_env, fairChoices_fair.cas, fairChoices_fair.clock, w_frames, w_args, w_heap, w_applies, trivial, w_rest, w_case⟩
end start1
theorem witness_1 : WitnessClaimed_1 := ⟨start1.p0, start1.e0, start1.about1, start1.theMethod, start1.args0, start1.below0, start1.atStart⟩
end Jvm.Pilot.@@N@@
