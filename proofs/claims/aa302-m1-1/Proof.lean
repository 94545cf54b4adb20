import JvmDerived
import JvmDerived.Pilot.@@N@@Statement
import JvmDerived.Pilot.@@N@@Code
set_option linter.unusedVariables false
set_option linter.unusedSimpArgs false
namespace Jvm.RoadKit
open Sem ClassFile Op Lib Jvm.Stand Jvm.Free Jvm.LawKit
section Own
variable {p : Program} {l : Launch} {e : Env} {R : Room} {s : State} {m : MethodId} {args : Array Value} {below : List Frame} {meth : Method} {c : Code} {T : State} {locs : List Loc} {cells slots : Nat} {Z : State} {a0 : Array Value} {h : Heap}
/-- the run goes on from the frame g over T to an end that P says -/
def own_Go (p : Program) (e : Env) (below : List Frame) (P : Outcome → State → Prop) (T : State) (g : JFrame) : Prop :=
  ∃ s₂ o, Steps p.tables e below (T.setTop g) s₂ ∧ s₂.status = .running ∧ Ended s₂ below o ∧ P o s₂
theorem own_via {P : Outcome → State → Prop} {T' : State} {g g' : JFrame} (k : ∀ target, Steps p.tables e below (T'.setTop g') target → Steps p.tables e below (T.setTop g) target) (q : own_Go p e below P T' g') : own_Go p e below P T g := by
  obtain ⟨s2, o, h1, h2⟩ := q
  exact ⟨s2, o, k _ h1, h2⟩
theorem own_start {P : Outcome → State → Prop} {g g' : JFrame} (q : g = g') (k : own_Go p e below P T g') : own_Go p e below P T g := q ▸ k
/-- what a body owes at its end -/
abbrev own_End (s : State) (Q : Option Value → Heap → List Loc → Prop) (k n : Nat) : Outcome → State → Prop := fun o U' => ∃ v L, o = .returned v ∧ Q v U'.heap L ∧ FrameEnd s o U' L k n
theorem own_ret {Q : Option Value → Heap → List Loc → Prop} {k n : Nat} {pc : Nat} {Ls : Array Slot} {w : Value} {t : FieldType} {i : Instr} {rest : List Value} (X : Stand p l e R s m args below meth c T locs cells slots) (hx : p.tables.exec = Jvm.exec) (hret : meth.sig.returnType = some t) (hlk : meth.locks = false) (hn : narrow t w = w)
    (hi : (i = .ireturn ∧ (t = .int ∨ t = .boolean ∨ t = .byte ∨ t = .char ∨ t = .short) ∧ ∃ z, w = .int z) ∨ (i = .lreturn ∧ t = .long ∧ ∃ z, w = .long z) ∨ (i = .dreturn ∧ t = .double ∧ ∃ z, w = .double z) ∨ (i = .freturn ∧ t = .float ∧ ∃ z, w = .float z) ∨ (i = .areturn ∧ t.isReference = true ∧ w.isRef = true))
    (hd : decode c.code pc = .ok (i, 1)) (hk : cells ≤ k) (hs : slots ≤ n) (hQ : Q (some w) T.heap locs) : own_Go p e below (own_End s Q k n) T (mkF m pc Ls (w :: rest)) := by
  obtain ⟨fs, hr, hrun, hended, hW, hsame⟩ := X.leave (v := some w) (fun q => by rw [hret] at q; cases q) hlk
  exact ⟨_, _, retOut X hx hret hn hi hd hr, hrun, hended, _, _, rfl, hQ, ⟨_, rfl⟩, hW, hsame.mono hk hs⟩
theorem own_retV {Q : Option Value → Heap → List Loc → Prop} {k n : Nat} {pc : Nat} {Ls : Array Slot} (X : Stand p l e R s m args below meth c T locs cells slots) (hx : p.tables.exec = Jvm.exec) (hret : meth.sig.returnType = none) (hlk : meth.locks = false)
    (hd : decode c.code pc = .ok (.return_, 1)) (hk : cells ≤ k) (hs : slots ≤ n) (hQ : Q none T.heap locs) : own_Go p e below (own_End s Q k n) T (mkF m pc Ls []) := by
  obtain ⟨fs, hr, hrun, hended, hW, hsame⟩ := X.leave (v := none) (fun _ => rfl) hlk
  exact ⟨_, _, X.returnOut hx hret hd hr, hrun, hended, _, _, rfl, hQ, ⟨_, rfl⟩, hW, hsame.mono hk hs⟩
/-- a callee that leaves the heap as it was -/
def own_Q (r : Option Value) (h0 : Heap) (v : Option Value) (h : Heap) (L : List Loc) : Prop := v = r ∧ L = [] ∧ h = h0
def own_F (r : Option Value) (n0 : Nat) (v : Option Value) (h : Heap) (L : List Loc) : Prop := v = r ∧ Fr n0 L
theorem own_fin {r v : Option Value} {n0 : Nat} {h : Heap} {L : List Loc} (q : own_F r n0 v h L) : v = r ∧ Fr n0 L := q
abbrev own_Met (l : Launch) (Z : State) (y : MethodName) (ws : List Cond) (rm : Room) (as' : Array Value) (h0 : Heap) (Q : Option Value → Heap → List Loc → Prop) : Prop :=
  MetFree l y (head1 ws rm) (fun a U => a = as' ∧ Z.Warmed39 U.vm ∧ U.heap = h0) (fun _ _ _ _ _ => True) (fun _ U o U' => ∃ v L, o = .returned v ∧ Q v U'.heap L ∧ FrameEnd U o U' L rm.cells rm.slots)
theorem own_callV {own C : String} {index : Nat} {y z : MethodName} {bytes : ByteArray} {maxL : Nat} {ret : Option FieldType} {rm : Room} {as' : Array Value} {r : Option Value} {W : Nat} {b : Addr}
    (X : Stand p l e R s m args below meth c T locs cells slots) (hx : p.tables.exec = Jvm.exec) (hZ : Z.Warmed39 s.vm) (hown : s.vm.findClass own = some m.cls)
    (wl : (Cond.methodLink own index y).before a0 Z = true) (wd : (Cond.declares y).before a0 Z = true) (nf : NotFace s y) (ws : (Cond.selects C y z).before a0 Z = true) (wi : (Cond.instanceMethod z).before a0 Z = true) (hy : y.cls ≠ "java/lang/invoke/MethodHandle" ∧ y.cls ≠ "java/lang/invoke/VarHandle")
    (wc : (Cond.code z bytes maxL ret).before a0 Z = true) (wz : (Cond.initialized z.cls).before a0 Z = true) (hM : own_Met l Z z [Cond.code z bytes maxL ret] rm as' h (own_Q r h)) (eT : T.heap = h) (E : Exa Z h b C)
    (hf : rm.frames + 1 ≤ R.frames) (hl : W + (maxL + 11) + rm.locals ≤ R.locals) (hc : cells + rm.cells ≤ R.cells) (hs : slots + rm.slots ≤ R.slots)
    {g : JFrame} (hg : g.method = m) (hsize : g.locals.size = c.maxLocals) {argsL rest : List Value} (hlen : ∀ sig, parseMethodDescriptor y.desc = some sig → argsL.length = sig.parameters.length) (hstack : g.stack = argsL.reverse ++ .ref b :: rest)
    (hW : 2 * g.monitorRoom + (rest.map fun v => v.category).sum ≤ W) (hdg : decode c.code g.pc = .ok (.invokevirtual index, 3)) (hargs : (.ref b :: argsL).toArray = as') :
    ∃ T', Stand p l e R s m args below meth c T' locs (cells + rm.cells) (slots + rm.slots) ∧ T'.heap = h ∧ ∀ target, Steps p.tables e below (T'.setTop { g with pc := g.pc + 3, stack := r.toList ++ rest }) target → Steps p.tables e below (T.setTop g) target := by
  obtain ⟨cB, kB, q1, q2, q3⟩ := isOf hZ eT E
  obtain ⟨_, _, ⟨T', L', k', n'⟩, -, X', ⟨Lc, hQ, hl', hk', hn'⟩, st⟩ := X.virtualBack hx (y := y) (z := z) hown (mvT hZ wl) (mvT hZ wd) nf (mvT hZ ws) (mvT hZ wi) hy (backOf (W := W) hM hZ wc wz hf hl) q1 q3 hg hsize (Steps.refl _) hlen hstack hW hdg (fun _ _ => ⟨hargs, eT, hc, hs⟩)
  dsimp only [Pt.U, Pt.locs, Pt.cells, Pt.slots] at X' hl' hk' hn' st hQ
  subst hl' hk' hn'
  obtain ⟨rfl, rfl, e'⟩ := hQ
  rw [List.append_nil] at X'
  exact ⟨T', X', e', fun target k => st.trans k⟩
theorem own_callU {own C owner : String} {index : Nat} {y z : MethodName} {bytes : ByteArray} {maxL : Nat} {ret : Option FieldType} {rm : Room} {as' : Array Value} {r : Option Value} {W : Nat} {b : Addr}
    (X : Stand p l e R s m args below meth c T locs cells slots) (hx : p.tables.exec = Jvm.exec) (hZ : Z.Warmed39 s.vm) (hown : s.vm.findClass own = some m.cls)
    (wl : (Cond.methodLink own index y).before a0 Z = true) (wm : (Cond.sameMethod y.cls owner y.name y.desc).before a0 Z = true) (wd : (Cond.declares ⟨owner, y.name, y.desc⟩).before a0 Z = true) (ho : owner ≠ "java/lang/invoke/MethodHandle" ∧ owner ≠ "java/lang/invoke/VarHandle") (ws : (Cond.selects C y z).before a0 Z = true) (wi : (Cond.instanceMethod z).before a0 Z = true)
    (wc : (Cond.code z bytes maxL ret).before a0 Z = true) (wz : (Cond.initialized z.cls).before a0 Z = true) (hM : own_Met l Z z [Cond.code z bytes maxL ret] rm as' h (own_Q r h)) (eT : T.heap = h) (E : Exa Z h b C)
    (hf : rm.frames + 1 ≤ R.frames) (hl : W + (maxL + 11) + rm.locals ≤ R.locals) (hc : cells + rm.cells ≤ R.cells) (hs : slots + rm.slots ≤ R.slots)
    {g : JFrame} (hg : g.method = m) (hsize : g.locals.size = c.maxLocals) {argsL rest : List Value} (hlen : ∀ sig, parseMethodDescriptor y.desc = some sig → argsL.length = sig.parameters.length) (hstack : g.stack = argsL.reverse ++ .ref b :: rest)
    (hW : 2 * g.monitorRoom + (rest.map fun v => v.category).sum ≤ W) (hdg : decode c.code g.pc = .ok (.invokevirtual index, 3)) (hargs : (.ref b :: argsL).toArray = as') :
    ∃ T', Stand p l e R s m args below meth c T' locs (cells + rm.cells) (slots + rm.slots) ∧ T'.heap = h ∧ ∀ target, Steps p.tables e below (T'.setTop { g with pc := g.pc + 3, stack := r.toList ++ rest }) target → Steps p.tables e below (T.setTop g) target := by
  obtain ⟨cB, kB, q1, q2, q3⟩ := isOf hZ eT E
  obtain ⟨_, _, ⟨T', L', k', n'⟩, -, X', ⟨Lc, hQ, hl', hk', hn'⟩, st⟩ := X.virtualBackUp hx (x := y) (y := z) (owner := owner) hown (mvT hZ wl) (mvT hZ wm) (mvT hZ wd) ho (mvT hZ ws) (mvT hZ wi) (backOf (W := W) hM hZ wc wz hf hl) q1 q3 hg hsize (Steps.refl _) hlen hstack hW hdg (fun _ _ => ⟨hargs, eT, hc, hs⟩)
  dsimp only [Pt.U, Pt.locs, Pt.cells, Pt.slots] at X' hl' hk' hn' st hQ
  subst hl' hk' hn'
  obtain ⟨rfl, rfl, e'⟩ := hQ
  rw [List.append_nil] at X'
  exact ⟨T', X', e', fun target k => st.trans k⟩
theorem own_callS {own : String} {index : Nat} {y : MethodName} {bytes : ByteArray} {maxL : Nat} {ret : Option FieldType} {rm : Room} {as' : Array Value} {r : Option Value} {W : Nat}
    (X : Stand p l e R s m args below meth c T locs cells slots) (hx : p.tables.exec = Jvm.exec) (hZ : Z.Warmed39 s.vm) (hown : s.vm.findClass own = some m.cls)
    (wl : (Cond.methodLink own index y).before a0 Z = true) (wt : (Cond.static y).before a0 Z = true) (wz : (Cond.initialized y.cls).before a0 Z = true) (wc : (Cond.code y bytes maxL ret).before a0 Z = true) (hy : y.cls ≠ "java/lang/invoke/MethodHandle" ∧ y.cls ≠ "java/lang/invoke/VarHandle")
    (hM : own_Met l Z y [Cond.code y bytes maxL ret] rm as' h (own_Q r h)) (eT : T.heap = h)
    (hf : rm.frames + 1 ≤ R.frames) (hl : W + (maxL + 11) + rm.locals ≤ R.locals) (hc : cells + rm.cells ≤ R.cells) (hs : slots + rm.slots ≤ R.slots)
    {g : JFrame} (hg : g.method = m) (hsize : g.locals.size = c.maxLocals) {argsL rest : List Value} (hlen : ∀ sig, parseMethodDescriptor y.desc = some sig → argsL.length = sig.parameters.length) (hstack : g.stack = argsL.reverse ++ rest)
    (hW : 2 * g.monitorRoom + (rest.map fun v => v.category).sum ≤ W) (hdg : decode c.code g.pc = .ok (.invokestatic index, 3)) (hargs : argsL.toArray = as') :
    ∃ T', Stand p l e R s m args below meth c T' locs (cells + rm.cells) (slots + rm.slots) ∧ T'.heap = h ∧ ∀ target, Steps p.tables e below (T'.setTop { g with pc := g.pc + 3, stack := r.toList ++ rest }) target → Steps p.tables e below (T.setTop g) target := by
  obtain ⟨_, _, ⟨T', L', k', n'⟩, -, X', ⟨Lc, hQ, hl', hk', hn'⟩, st⟩ := Jvm.LawKit.callS X hx (y := y) hown (mvT hZ wl) (mvT hZ wt) (mvT hZ wz) (mvT hZ wc) hy (backOf (W := W) hM hZ wc wz hf hl) hg hsize hlen hstack hW hdg (fun _ _ => ⟨hargs, eT, hc, hs⟩)
  dsimp only [Pt.U, Pt.locs, Pt.cells, Pt.slots] at X' hl' hk' hn' st hQ
  subst hl' hk' hn'
  obtain ⟨rfl, rfl, e'⟩ := hQ
  rw [List.append_nil] at X'
  exact ⟨T', X', e', st⟩
theorem own_evI {t : Term} {k : Int32} (q : (Cond.eq t (.int k)).value args Z none Z [] = some true) : t.eval args Z none [] Z = some (.int k) := eqv_i rfl q
theorem own_evL {t : Term} {k : Int64} (q : (Cond.eq t (.long k)).value args Z none Z [] = some true) : t.eval args Z none [] Z = some (.long k) := eqv_l rfl q
theorem own_fld {t : Term} {k : Int32} {a : Addr} {C n d : String} (q : (Cond.eq (.field t C n d) (.int k)).value args Z none Z [] = some true) (ht : t.eval args Z none [] Z = some (.ref a)) : Fld Z Z.heap a C n d (.int k) := Fld.start ((fld_at ht).symm.trans (own_evI q))
theorem own_staK {h' : Heap} {C n d : String} {v : Value} (F : Sta Z h C n d v) (K : Keep h h' []) : Sta Z h' C n d v := by
  obtain ⟨cf, i, k, f, st, cell, h1, h2, h3, h4, h5, r⟩ := F
  exact ⟨cf, i, k, f, st, cell, h1, h2, h3, h4, K.2.1 _ _ h5 nin0, r⟩
theorem own_arrK {h' : Heap} {a : Addr} {cl : Cell} {ty : FieldType} (F : Arr Z h a cl ty) (K : Keep h h' []) : Arr Z h' a cl ty := ⟨K.2.1 _ _ F.1 nin0, F.2⟩
/-- a static call by a contract of any kind -/
theorem own_callSQ {own : String} {index : Nat} {y : MethodName} {bytes : ByteArray} {maxL : Nat} {ret : Option FieldType} {rm : Room} {as' : Array Value} {Q : Option Value → Heap → List Loc → Prop} {W : Nat}
    (X : Stand p l e R s m args below meth c T locs cells slots) (hx : p.tables.exec = Jvm.exec) (hZ : Z.Warmed39 s.vm) (hown : s.vm.findClass own = some m.cls)
    (wl : (Cond.methodLink own index y).before a0 Z = true) (wt : (Cond.static y).before a0 Z = true) (wz : (Cond.initialized y.cls).before a0 Z = true) (wc : (Cond.code y bytes maxL ret).before a0 Z = true) (hy : y.cls ≠ "java/lang/invoke/MethodHandle" ∧ y.cls ≠ "java/lang/invoke/VarHandle")
    (hM : own_Met l Z y [Cond.code y bytes maxL ret] rm as' h Q) (eT : T.heap = h)
    (hf : rm.frames + 1 ≤ R.frames) (hl : W + (maxL + 11) + rm.locals ≤ R.locals) (hc : cells + rm.cells ≤ R.cells) (hs : slots + rm.slots ≤ R.slots)
    {g : JFrame} (hg : g.method = m) (hsize : g.locals.size = c.maxLocals) {argsL rest : List Value} (hlen : ∀ sig, parseMethodDescriptor y.desc = some sig → argsL.length = sig.parameters.length) (hstack : g.stack = argsL.reverse ++ rest)
    (hW : 2 * g.monitorRoom + (rest.map fun v => v.category).sum ≤ W) (hdg : decode c.code g.pc = .ok (.invokestatic index, 3)) (hargs : argsL.toArray = as') :
    ∃ v T' Lc, Stand p l e R s m args below meth c T' (locs ++ Lc) (cells + rm.cells) (slots + rm.slots) ∧ Q v T'.heap Lc ∧ ∀ target, Steps p.tables e below (T'.setTop { g with pc := g.pc + 3, stack := v.toList ++ rest }) target → Steps p.tables e below (T.setTop g) target := by
  obtain ⟨v, _, ⟨T', L', k', n'⟩, -, X', ⟨Lc, hQ, hl', hk', hn'⟩, st⟩ := Jvm.LawKit.callS X hx (y := y) hown (mvT hZ wl) (mvT hZ wt) (mvT hZ wz) (mvT hZ wc) hy (backOf (W := W) hM hZ wc wz hf hl) hg hsize hlen hstack hW hdg (fun _ _ => ⟨hargs, eT, hc, hs⟩)
  dsimp only [Pt.U, Pt.locs, Pt.cells, Pt.slots] at X' hl' hk' hn' st hQ
  subst hl' hk' hn'
  exact ⟨v, T', Lc, X', hQ, st⟩
/-- a constructor's call by a contract of any kind -/
theorem own_callIQ {own : String} {index : Nat} {y : MethodName} {bytes : ByteArray} {maxL : Nat} {rm : Room} {as' : Array Value} {Q : Option Value → Heap → List Loc → Prop} {W : Nat} {b : Addr}
    (X : Stand p l e R s m args below meth c T locs cells slots) (hx : p.tables.exec = Jvm.exec) (hZ : Z.Warmed39 s.vm) (hy1 : y.name = "<init>") (hown : s.vm.findClass own = some m.cls)
    (wl : (Cond.methodLink own index y).before a0 Z = true) (wi : (Cond.instanceMethod y).before a0 Z = true) (wz : (Cond.initialized y.cls).before a0 Z = true) (wc : (Cond.code y bytes maxL none).before a0 Z = true) (hy : y.cls ≠ "java/lang/invoke/MethodHandle" ∧ y.cls ≠ "java/lang/invoke/VarHandle")
    (hM : own_Met l Z y [Cond.code y bytes maxL none] rm as' h Q) (eT : T.heap = h)
    (hf : rm.frames + 1 ≤ R.frames) (hl : W + (maxL + 11) + rm.locals ≤ R.locals) (hc : cells + rm.cells ≤ R.cells) (hs : slots + rm.slots ≤ R.slots)
    {g : JFrame} (hg : g.method = m) (hsize : g.locals.size = c.maxLocals) {argsL rest : List Value} (hlen : ∀ sig, parseMethodDescriptor y.desc = some sig → argsL.length = sig.parameters.length) (hstack : g.stack = argsL.reverse ++ .ref b :: rest)
    (hW : 2 * g.monitorRoom + (rest.map fun v => v.category).sum ≤ W) (hdg : decode c.code g.pc = .ok (.invokespecial index, 3)) (hargs : (.ref b :: argsL).toArray = as') :
    ∃ v T' Lc, Stand p l e R s m args below meth c T' (locs ++ Lc) (cells + rm.cells) (slots + rm.slots) ∧ Q v T'.heap Lc ∧ ∀ target, Steps p.tables e below (T'.setTop { g with pc := g.pc + 3, stack := v.toList ++ rest }) target → Steps p.tables e below (T.setTop g) target := by
  obtain ⟨v, _, ⟨T', L', k', n'⟩, -, X', ⟨Lc, hQ, hl', hk', hn'⟩, st⟩ := X.specialBack hx (y := y) hy1 hown (mvT hZ wl) (mvT hZ wi) (mvT hZ wc) hy (backOf (W := W) hM hZ wc wz hf hl) hg hsize (Steps.refl _) (a := b) hlen hstack hW hdg (fun _ _ => ⟨hargs, eT, hc, hs⟩)
  dsimp only [Pt.U, Pt.locs, Pt.cells, Pt.slots] at X' hl' hk' hn' st hQ
  subst hl' hk' hn'
  exact ⟨v, T', Lc, X', hQ, fun target k => st.trans k⟩
/-- the same where the callee leaves the heap as it is -/
theorem own_callI {own : String} {index : Nat} {y : MethodName} {bytes : ByteArray} {maxL : Nat} {rm : Room} {as' : Array Value} {W : Nat} {b : Addr}
    (X : Stand p l e R s m args below meth c T locs cells slots) (hx : p.tables.exec = Jvm.exec) (hZ : Z.Warmed39 s.vm) (hy1 : y.name = "<init>") (hown : s.vm.findClass own = some m.cls)
    (wl : (Cond.methodLink own index y).before a0 Z = true) (wi : (Cond.instanceMethod y).before a0 Z = true) (wz : (Cond.initialized y.cls).before a0 Z = true) (wc : (Cond.code y bytes maxL none).before a0 Z = true) (hy : y.cls ≠ "java/lang/invoke/MethodHandle" ∧ y.cls ≠ "java/lang/invoke/VarHandle")
    (hM : own_Met l Z y [Cond.code y bytes maxL none] rm as' h (own_Q none h)) (eT : T.heap = h)
    (hf : rm.frames + 1 ≤ R.frames) (hl : W + (maxL + 11) + rm.locals ≤ R.locals) (hc : cells + rm.cells ≤ R.cells) (hs : slots + rm.slots ≤ R.slots)
    {g : JFrame} (hg : g.method = m) (hsize : g.locals.size = c.maxLocals) {argsL rest : List Value} (hlen : ∀ sig, parseMethodDescriptor y.desc = some sig → argsL.length = sig.parameters.length) (hstack : g.stack = argsL.reverse ++ .ref b :: rest)
    (hW : 2 * g.monitorRoom + (rest.map fun v => v.category).sum ≤ W) (hdg : decode c.code g.pc = .ok (.invokespecial index, 3)) (hargs : (.ref b :: argsL).toArray = as') :
    ∃ T', Stand p l e R s m args below meth c T' locs (cells + rm.cells) (slots + rm.slots) ∧ T'.heap = h ∧ ∀ target, Steps p.tables e below (T'.setTop { g with pc := g.pc + 3, stack := rest }) target → Steps p.tables e below (T.setTop g) target := by
  obtain ⟨v, T', Lc, X', ⟨rfl, rfl, e'⟩, st⟩ := own_callIQ X hx hZ hy1 hown wl wi wz wc hy hM eT hf hl hc hs hg hsize hlen hstack hW hdg hargs
  rw [List.append_nil] at X'
  exact ⟨T', X', e', st⟩
/-- roads that join: the rest of the walk is told once, for every x -/
theorem own_join {α : Type} {P : Outcome → State → Prop} {g : α → JFrame} {g0 : JFrame} (X : Stand p l e R s m args below meth c T locs cells slots) (eT : T.heap = h)
    (body : ∀ (x : α) (T' : State), Stand p l e R s m args below meth c T' locs cells slots → T'.heap = h → own_Go p e below P T' (g x))
    (rest : (∀ (x : α) (T' : State), Stand p l e R s m args below meth c T' locs cells slots → T'.heap = h → own_Go p e below P T' (g x)) → own_Go p e below P T g0) : own_Go p e below P T g0 := rest body
/-- a class whose line of superclasses ends without K is none of K's, where K is a class that can be instantiated -/
theorem own_NSroot {O K : String} {n : Nat} (w : (Cond.noSuperclass O).before a0 Z = true) (wk : (Cond.instantiable K n).before a0 Z = true) (hn : O ≠ K) : NS Z O K := by
  obtain ⟨c, k, h1, h2, h3, -, -⟩ := Cond.noSuperclass_spec w
  obtain ⟨t, kt, g1, -⟩ := Cond.instantiable_spec wk
  have ne := ids_ne h1 g1 hn
  refine ⟨c, t, h1, g1, fun fuel => ?_⟩
  cases fuel with
  | zero => rfl
  | succ f => simp [Vm.isSubclassAux, ne, h2, h3]
theorem own_NSno {C S K : String} {n : Nat} (w : (Cond.superclass C S).before a0 Z = true) (wk : (Cond.instantiable K n).before a0 Z = true) (q : NS Z C K) (hn : C ≠ K) : ∃ c t, Z.vm.findClass C = some c ∧ Z.vm.findClass K = some t ∧ Z.vm.assignable c t = false := by
  obtain ⟨c, t, h0, g0, n3⟩ := q
  obtain ⟨p, k, kp, h1, h2, h3, h4, h5, -, h7⟩ := Cond.superclass_spec h0 w
  obtain ⟨t', kt, g1, g2, g5, g7, -⟩ := Cond.instantiable_spec wk
  cases g0.symm.trans g1
  have g8 : kt.isInterface = false := by simp at g7; exact g7.1
  have ne := ids_ne h0 g0 hn
  refine ⟨c, t, h0, g0, ?_⟩
  show Z.vm.assignableAux (255 + 1) c t = false
  simp [Vm.assignableAux, ne, h2, g2, h5, g5, g8, Vm.isSubclass, n3]
theorem own_len {t : Term} {a : Addr} {cl : Cell} {ty : FieldType} {z : Int32} (ev : t.eval args Z none [] Z = some (.ref a)) (A : Arr Z Z.heap a cl ty) (q : (Term.length t).eval args Z none [] Z = some (.int z)) : cl.slots.size < 2 ^ 31 ∧ cl.slots.size.toInt32 = z := by
  have ha : Z.arrayAt? a = some cl := A.fin (Vm.Alike.refl _)
  by_cases hl : cl.slots.size < 2 ^ 31
  · rw [len_f ev ha hl] at q
    exact ⟨hl, Value.int.inj (Option.some.inj q)⟩
  · exfalso
    simp [Term.eval, ev, ha, hl] at q
theorem own_size {n : Nat} {z : Int32} (q : n < 2 ^ 31) (e : n.toInt32 = z) : n = z.toNatClampNeg := by
  rw [← e]
  simp only [Int32.toNatClampNeg, len_toInt q]
  rfl
end Own
end Jvm.RoadKit
namespace Jvm.Pilot.@@N@@
open Jvm Jvm.ClassFile Sem Op Lib Jvm.Free Jvm.Stand Jvm.LawKit Jvm.RoadKit Bundle Jvm.Pilot.@@N@@.Jvm.D
theorem pn_0 : plainName "java/lang/Record" = true := by first | (simp [plainName, overriddenIn]; done) | decide +kernel
theorem d_jdk_30_method_1_code_0 : decode jdk_30_method_1_code 0 = .ok (.aload_n 0, 1) := by decide +kernel
theorem d_jdk_30_method_1_code_1 : decode jdk_30_method_1_code 1 = .ok (.invokespecial 1, 3) := by decide +kernel
theorem d_jdk_30_method_1_code_4 : decode jdk_30_method_1_code 4 = .ok (.return_, 1) := by decide +kernel
set_option maxRecDepth 65536 in
set_option maxHeartbeats 40000000 in
theorem own_rec (l : Launch) (Z : State) (a0 : Array Value) (hw : ∀ d ∈ tables_1, d.before a0 Z = true) (b : Addr) (h0 : Heap)  :
    own_Met l Z (⟨"java/lang/Record", "<init>", "()V"⟩ : MethodName) [Jvm.Cond.code (⟨"java/lang/Record", "<init>", "()V"⟩ : MethodName) jdk_30_method_1_code 1 none] ({ frames := 1, cells := 0, slots := 0, locals := 12 } : Room) #[(.ref b)] h0 (own_Q none h0) := by
  refine MetFree.of_bodySF (plainFor_of_name pn_0) hisR ?_
  intro p e s m args below meth c s₁ Bd hml0 hP hK
  obtain ⟨rfl, hZ, hh⟩ := hP
  have hx := Bd.exec
  have hby := Bd.bytes
  have hml : c.maxLocals = 1 := hml0
  have hown : s.vm.findClass "java/lang/Record" = some m.cls := findClass_of_methodNamed Bd.named
  have hnm := (name_of_methodNamed Bd.named Bd.method).1
  have hlk : meth.locks = false := BodyLoose.notSynchronized Bd
  have X0 : Stand p l e ({ frames := 1, cells := 0, slots := 0, locals := 12 } : Room) s m #[(.ref b)] below meth c s₁ [] 0 0 := Stand.of_body Bd
  have e0 : s₁.heap = h0 := by rw [← hh, Bd.state]; rfl
  show own_Go p e below (own_End s (own_Q none h0) 0 0) s₁ (entryFrame m #[(.ref b)] 1)
  refine own_start (g' := mkF m 0 #[.val (.ref b)] []) (by first | rfl | (simp [entryFrame, mkF, argsToLocals, Value.category, maxLocals]; done)) ?_
  refine own_via (T' := s₁) (g' := (mkF m 1 #[.val (.ref b)] [(.ref b)])) (fun t k => XS.aloadN X0.here hx rfl (hb hby d_jdk_30_method_1_code_0) rfl rfl k) ?_
  obtain ⟨T1, X1, e1, st1⟩ := initO X0 hx hZ hown (hw _ (List.mem_of_getElem? (i := 11) rfl)) (hw _ (List.mem_of_getElem? (i := 12) rfl)) (hw _ (List.mem_of_getElem? (i := 13) rfl)) e0 (g := (mkF m 1 #[.val (.ref b)] [(.ref b)])) rfl (by rw [hml]; rfl) rfl (hb hby d_jdk_30_method_1_code_1) (by decide) (W := 0) (by show 2 * 0 + _ ≤ _; exact Nat.le_of_eq rfl) (by decide)
  refine own_via (T' := T1) (g' := (mkF m 4 #[.val (.ref b)] [])) st1 ?_
  exact own_retV X1 hx Bd.returns hlk (hb hby d_jdk_30_method_1_code_4) (by decide) (by decide) ⟨rfl, rfl, e1⟩
def own_Qs (Z : State) (b : Addr) (p2 : Int32) (h0 : Heap) (n0 : Nat) (v : Option Value) (h : Heap) (L : List Loc) : Prop := v = none ∧ Fr n0 L ∧ Keep h0 h [b] ∧ Exa Z h b "com/example/lazytail/lazytail/media/SourceAudio" ∧ Fld Z h b "com/example/lazytail/lazytail/media/SourceAudio" "sampleRate" "I" (.int p2)
theorem pn_1 : plainName "com/example/lazytail/lazytail/media/SourceAudio" = true := by first | (simp [plainName, overriddenIn]; done) | decide +kernel
theorem pd_3 : parseMethodDescriptor "()V" = some ⟨[], none⟩ := by decide +kernel
theorem d_prog_29_method_1_code_0 : decode prog_29_method_1_code 0 = .ok (.aload_n 0, 1) := by decide +kernel
theorem d_prog_29_method_1_code_1 : decode prog_29_method_1_code 1 = .ok (.invokespecial 1, 3) := by decide +kernel
theorem d_prog_29_method_1_code_4 : decode prog_29_method_1_code 4 = .ok (.aload_n 0, 1) := by decide +kernel
theorem d_prog_29_method_1_code_5 : decode prog_29_method_1_code 5 = .ok (.iload_n 1, 1) := by decide +kernel
theorem d_prog_29_method_1_code_6 : decode prog_29_method_1_code 6 = .ok (.putfield 7, 3) := by decide +kernel
theorem d_prog_29_method_1_code_9 : decode prog_29_method_1_code 9 = .ok (.aload_n 0, 1) := by decide +kernel
theorem d_prog_29_method_1_code_10 : decode prog_29_method_1_code 10 = .ok (.iload_n 2, 1) := by decide +kernel
theorem d_prog_29_method_1_code_11 : decode prog_29_method_1_code 11 = .ok (.putfield 13, 3) := by decide +kernel
theorem d_prog_29_method_1_code_14 : decode prog_29_method_1_code 14 = .ok (.aload_n 0, 1) := by decide +kernel
theorem d_prog_29_method_1_code_15 : decode prog_29_method_1_code 15 = .ok (.iload_n 3, 1) := by decide +kernel
theorem d_prog_29_method_1_code_16 : decode prog_29_method_1_code 16 = .ok (.putfield 16, 3) := by decide +kernel
theorem d_prog_29_method_1_code_19 : decode prog_29_method_1_code 19 = .ok (.return_, 1) := by decide +kernel
set_option maxRecDepth 65536 in
set_option maxHeartbeats 40000000 in
theorem own_cs (l : Launch) (Z : State) (a0 : Array Value) (hw : ∀ d ∈ tables_1, d.before a0 Z = true) (b : Addr) (p1 p2 p3 : Int32) (u_stream u_sampleRate u_channels : Value) (n0 : Nat) (h0 : Heap) (g_b : n0 ≤ b) (E_b : Exa Z h0 b "com/example/lazytail/lazytail/media/SourceAudio") (F_stream_b : Fld Z h0 b "com/example/lazytail/lazytail/media/SourceAudio" "stream" "I" u_stream) (F_sampleRate_b : Fld Z h0 b "com/example/lazytail/lazytail/media/SourceAudio" "sampleRate" "I" u_sampleRate) (F_channels_b : Fld Z h0 b "com/example/lazytail/lazytail/media/SourceAudio" "channels" "I" u_channels) :
    own_Met l Z (⟨"com/example/lazytail/lazytail/media/SourceAudio", "<init>", "(III)V"⟩ : MethodName) [Jvm.Cond.code (⟨"com/example/lazytail/lazytail/media/SourceAudio", "<init>", "(III)V"⟩ : MethodName) prog_29_method_1_code 4 none] ({ frames := 2, cells := 0, slots := 0, locals := 24 } : Room) #[(.ref b), (.int p1), (.int p2), (.int p3)] h0 (own_Qs Z b p2 h0 n0) := by
  refine MetFree.of_bodySF (plainFor_of_name pn_1) hisR ?_
  intro p e s m args below meth c s₁ Bd hml0 hP hK
  obtain ⟨rfl, hZ, hh⟩ := hP
  have hx := Bd.exec
  have hby := Bd.bytes
  have hml : c.maxLocals = 4 := hml0
  have hown : s.vm.findClass "com/example/lazytail/lazytail/media/SourceAudio" = some m.cls := findClass_of_methodNamed Bd.named
  have hnm := (name_of_methodNamed Bd.named Bd.method).1
  have hlk : meth.locks = false := BodyLoose.notSynchronized Bd
  have X0 : Stand p l e ({ frames := 2, cells := 0, slots := 0, locals := 24 } : Room) s m #[(.ref b), (.int p1), (.int p2), (.int p3)] below meth c s₁ [] 0 0 := Stand.of_body Bd
  have e0 : s₁.heap = h0 := by rw [← hh, Bd.state]; rfl
  show own_Go p e below (own_End s (own_Qs Z b p2 h0 n0) 0 0) s₁ (entryFrame m #[(.ref b), (.int p1), (.int p2), (.int p3)] 4)
  refine own_start (g' := mkF m 0 #[.val (.ref b), .val (.int p1), .val (.int p2), .val (.int p3)] []) (by first | rfl | (simp [entryFrame, mkF, argsToLocals, Value.category, maxLocals]; done)) ?_
  have K : Keep h0 h0 [b] := Keep.refl _ _
  have N : Fr n0 [] := Fr.nil _
  refine own_via (T' := s₁) (g' := (mkF m 1 #[.val (.ref b), .val (.int p1), .val (.int p2), .val (.int p3)] [(.ref b)])) (fun t k => XS.aloadN X0.here hx rfl (hb hby d_prog_29_method_1_code_0) rfl rfl k) ?_
  obtain ⟨T1, X1, e1, st1⟩ := own_callI (W := 0) (y := (⟨"java/lang/Record", "<init>", "()V"⟩ : MethodName)) X0 hx hZ rfl hown (hw _ (List.mem_of_getElem? (i := 6) rfl)) (hw _ (List.mem_of_getElem? (i := 7) rfl)) (hw _ (List.mem_of_getElem? (i := 9) rfl)) (hw _ (List.mem_of_getElem? (i := 10) rfl)) (by decide) (own_rec l Z a0 hw b h0) e0 (by decide) (by decide) (by decide) (by decide) (g := (mkF m 1 #[.val (.ref b), .val (.int p1), .val (.int p2), .val (.int p3)] [(.ref b)])) rfl (by rw [hml]; rfl) (argsL := []) (rest := []) (lenOf pd_3 rfl) rfl (by show 2 * 0 + _ ≤ _; exact Nat.le_of_eq rfl) (hb hby d_prog_29_method_1_code_1) rfl
  refine own_via (T' := T1) (g' := (mkF m 4 #[.val (.ref b), .val (.int p1), .val (.int p2), .val (.int p3)] [])) st1 ?_
  refine own_via (T' := T1) (g' := (mkF m 5 #[.val (.ref b), .val (.int p1), .val (.int p2), .val (.int p3)] [(.ref b)])) (fun t k => XS.aloadN X1.here hx rfl (hb hby d_prog_29_method_1_code_4) rfl rfl k) ?_
  refine own_via (T' := T1) (g' := (mkF m 6 #[.val (.ref b), .val (.int p1), .val (.int p2), .val (.int p3)] [(.int p1), (.ref b)])) (fun t k => XS.iloadN X1.here hx rfl (hb hby d_prog_29_method_1_code_5) rfl k) ?_
  obtain ⟨T2, h2, X2, e2, W2, st2⟩ := putF X1 hx hZ hown (host := "") (Or.inl (hw _ (List.mem_of_getElem? (i := 14) rfl))) Via.refl e1 F_stream_b E_b (Or.inr ⟨(hw _ (List.mem_of_getElem? (i := 15) rfl)), rfl, hnm⟩) (hw _ (List.mem_of_getElem? (i := 1) rfl)) (ty := .int) (by decide) rfl rfl (g := (mkF m 6 #[.val (.ref b), .val (.int p1), .val (.int p2), .val (.int p3)] [(.int p1), (.ref b)])) rfl rfl (hb hby d_prog_29_method_1_code_6)
  have K := K.wr W2 (Or.inl (List.mem_of_getElem? (i := 0) rfl))
  have N := Fr.snoc X2 N g_b
  have E_b := E_b.wr W2
  have F_stream_b := F_stream_b.same W2
  have F_sampleRate_b := F_sampleRate_b.other W2 (Or.inr (slot_ne (Or.inr (hw _ (List.mem_of_getElem? (i := 17) rfl))) (Or.inr (hw _ (List.mem_of_getElem? (i := 15) rfl))) (by decide) (t := .int) (t' := .int) (by decide) (by decide)))
  have F_channels_b := F_channels_b.other W2 (Or.inr (slot_ne (Or.inr (hw _ (List.mem_of_getElem? (i := 19) rfl))) (Or.inr (hw _ (List.mem_of_getElem? (i := 15) rfl))) (by decide) (t := .int) (t' := .int) (by decide) (by decide)))
  refine own_via (T' := T2) (g' := (mkF m 9 #[.val (.ref b), .val (.int p1), .val (.int p2), .val (.int p3)] [])) st2 ?_
  refine own_via (T' := T2) (g' := (mkF m 10 #[.val (.ref b), .val (.int p1), .val (.int p2), .val (.int p3)] [(.ref b)])) (fun t k => XS.aloadN X2.here hx rfl (hb hby d_prog_29_method_1_code_9) rfl rfl k) ?_
  refine own_via (T' := T2) (g' := (mkF m 11 #[.val (.ref b), .val (.int p1), .val (.int p2), .val (.int p3)] [(.int p2), (.ref b)])) (fun t k => XS.iloadN X2.here hx rfl (hb hby d_prog_29_method_1_code_10) rfl k) ?_
  obtain ⟨T3, h3, X3, e3, W3, st3⟩ := putF X2 hx hZ hown (host := "") (Or.inl (hw _ (List.mem_of_getElem? (i := 16) rfl))) Via.refl e2 F_sampleRate_b E_b (Or.inr ⟨(hw _ (List.mem_of_getElem? (i := 17) rfl)), rfl, hnm⟩) (hw _ (List.mem_of_getElem? (i := 1) rfl)) (ty := .int) (by decide) rfl rfl (g := (mkF m 11 #[.val (.ref b), .val (.int p1), .val (.int p2), .val (.int p3)] [(.int p2), (.ref b)])) rfl rfl (hb hby d_prog_29_method_1_code_11)
  have K := K.wr W3 (Or.inl (List.mem_of_getElem? (i := 0) rfl))
  have N := Fr.snoc X3 N g_b
  have E_b := E_b.wr W3
  have F_stream_b := F_stream_b.other W3 (Or.inr (slot_ne (Or.inr (hw _ (List.mem_of_getElem? (i := 15) rfl))) (Or.inr (hw _ (List.mem_of_getElem? (i := 17) rfl))) (by decide) (t := .int) (t' := .int) (by decide) (by decide)))
  have F_sampleRate_b := F_sampleRate_b.same W3
  have F_channels_b := F_channels_b.other W3 (Or.inr (slot_ne (Or.inr (hw _ (List.mem_of_getElem? (i := 19) rfl))) (Or.inr (hw _ (List.mem_of_getElem? (i := 17) rfl))) (by decide) (t := .int) (t' := .int) (by decide) (by decide)))
  refine own_via (T' := T3) (g' := (mkF m 14 #[.val (.ref b), .val (.int p1), .val (.int p2), .val (.int p3)] [])) st3 ?_
  refine own_via (T' := T3) (g' := (mkF m 15 #[.val (.ref b), .val (.int p1), .val (.int p2), .val (.int p3)] [(.ref b)])) (fun t k => XS.aloadN X3.here hx rfl (hb hby d_prog_29_method_1_code_14) rfl rfl k) ?_
  refine own_via (T' := T3) (g' := (mkF m 16 #[.val (.ref b), .val (.int p1), .val (.int p2), .val (.int p3)] [(.int p3), (.ref b)])) (fun t k => XS.iloadN X3.here hx rfl (hb hby d_prog_29_method_1_code_15) rfl k) ?_
  obtain ⟨T4, h4, X4, e4, W4, st4⟩ := putF X3 hx hZ hown (host := "") (Or.inl (hw _ (List.mem_of_getElem? (i := 18) rfl))) Via.refl e3 F_channels_b E_b (Or.inr ⟨(hw _ (List.mem_of_getElem? (i := 19) rfl)), rfl, hnm⟩) (hw _ (List.mem_of_getElem? (i := 1) rfl)) (ty := .int) (by decide) rfl rfl (g := (mkF m 16 #[.val (.ref b), .val (.int p1), .val (.int p2), .val (.int p3)] [(.int p3), (.ref b)])) rfl rfl (hb hby d_prog_29_method_1_code_16)
  have K := K.wr W4 (Or.inl (List.mem_of_getElem? (i := 0) rfl))
  have N := Fr.snoc X4 N g_b
  have E_b := E_b.wr W4
  have F_stream_b := F_stream_b.other W4 (Or.inr (slot_ne (Or.inr (hw _ (List.mem_of_getElem? (i := 15) rfl))) (Or.inr (hw _ (List.mem_of_getElem? (i := 19) rfl))) (by decide) (t := .int) (t' := .int) (by decide) (by decide)))
  have F_sampleRate_b := F_sampleRate_b.other W4 (Or.inr (slot_ne (Or.inr (hw _ (List.mem_of_getElem? (i := 17) rfl))) (Or.inr (hw _ (List.mem_of_getElem? (i := 19) rfl))) (by decide) (t := .int) (t' := .int) (by decide) (by decide)))
  have F_channels_b := F_channels_b.same W4
  refine own_via (T' := T4) (g' := (mkF m 19 #[.val (.ref b), .val (.int p1), .val (.int p2), .val (.int p3)] [])) st4 ?_
  exact own_retV X4 hx Bd.returns hlk (hb hby d_prog_29_method_1_code_19) (by decide) (by decide) (by rw [e4]; exact ⟨rfl, N, K, E_b, F_sampleRate_b⟩)
def own_ex (s : Int32) : Int32 := if (8000 : Int32) < s then (if (11025 : Int32) < s then (if (12000 : Int32) < s then (if (16000 : Int32) < s then (if (22050 : Int32) < s then (if (24000 : Int32) < s then (if (32000 : Int32) < s then (if (44100 : Int32) < s then (if (48000 : Int32) < s then (if (64000 : Int32) < s then (if (88200 : Int32) < s then (96000 : Int32) else (88200 : Int32)) else (64000 : Int32)) else (48000 : Int32)) else (44100 : Int32)) else (32000 : Int32)) else (24000 : Int32)) else (22050 : Int32)) else (16000 : Int32)) else (12000 : Int32)) else (11025 : Int32)) else (8000 : Int32)
theorem pn_2 : plainName "com/example/lazytail/lazytail/media/SourceAudioRenditionRatePinLaw" = true := by first | (simp [plainName, overriddenIn]; done) | decide +kernel
theorem d_method_4_code_0 : decode method_4_code 0 = .ok (.iload_n 0, 1) := by decide +kernel
theorem d_method_4_code_1 : decode method_4_code 1 = .ok (.sipush 8000, 3) := by decide +kernel
theorem d_method_4_code_4 : decode method_4_code 4 = .ok (.if_icmp .gt 7, 3) := by decide +kernel
theorem d_method_4_code_7 : decode method_4_code 7 = .ok (.sipush 8000, 3) := by decide +kernel
theorem d_method_4_code_10 : decode method_4_code 10 = .ok (.ireturn, 1) := by decide +kernel
theorem d_method_4_code_11 : decode method_4_code 11 = .ok (.iload_n 0, 1) := by decide +kernel
theorem d_method_4_code_12 : decode method_4_code 12 = .ok (.sipush 11025, 3) := by decide +kernel
theorem d_method_4_code_15 : decode method_4_code 15 = .ok (.if_icmp .gt 7, 3) := by decide +kernel
theorem d_method_4_code_18 : decode method_4_code 18 = .ok (.sipush 11025, 3) := by decide +kernel
theorem d_method_4_code_21 : decode method_4_code 21 = .ok (.ireturn, 1) := by decide +kernel
theorem d_method_4_code_22 : decode method_4_code 22 = .ok (.iload_n 0, 1) := by decide +kernel
theorem d_method_4_code_23 : decode method_4_code 23 = .ok (.sipush 12000, 3) := by decide +kernel
theorem d_method_4_code_26 : decode method_4_code 26 = .ok (.if_icmp .gt 7, 3) := by decide +kernel
theorem d_method_4_code_29 : decode method_4_code 29 = .ok (.sipush 12000, 3) := by decide +kernel
theorem d_method_4_code_32 : decode method_4_code 32 = .ok (.ireturn, 1) := by decide +kernel
theorem d_method_4_code_33 : decode method_4_code 33 = .ok (.iload_n 0, 1) := by decide +kernel
theorem d_method_4_code_34 : decode method_4_code 34 = .ok (.sipush 16000, 3) := by decide +kernel
theorem d_method_4_code_37 : decode method_4_code 37 = .ok (.if_icmp .gt 7, 3) := by decide +kernel
theorem d_method_4_code_40 : decode method_4_code 40 = .ok (.sipush 16000, 3) := by decide +kernel
theorem d_method_4_code_43 : decode method_4_code 43 = .ok (.ireturn, 1) := by decide +kernel
theorem d_method_4_code_44 : decode method_4_code 44 = .ok (.iload_n 0, 1) := by decide +kernel
theorem d_method_4_code_45 : decode method_4_code 45 = .ok (.sipush 22050, 3) := by decide +kernel
theorem d_method_4_code_48 : decode method_4_code 48 = .ok (.if_icmp .gt 7, 3) := by decide +kernel
theorem d_method_4_code_51 : decode method_4_code 51 = .ok (.sipush 22050, 3) := by decide +kernel
theorem d_method_4_code_54 : decode method_4_code 54 = .ok (.ireturn, 1) := by decide +kernel
theorem d_method_4_code_55 : decode method_4_code 55 = .ok (.iload_n 0, 1) := by decide +kernel
theorem d_method_4_code_56 : decode method_4_code 56 = .ok (.sipush 24000, 3) := by decide +kernel
theorem d_method_4_code_59 : decode method_4_code 59 = .ok (.if_icmp .gt 7, 3) := by decide +kernel
theorem d_method_4_code_62 : decode method_4_code 62 = .ok (.sipush 24000, 3) := by decide +kernel
theorem d_method_4_code_65 : decode method_4_code 65 = .ok (.ireturn, 1) := by decide +kernel
theorem d_method_4_code_66 : decode method_4_code 66 = .ok (.iload_n 0, 1) := by decide +kernel
theorem d_method_4_code_67 : decode method_4_code 67 = .ok (.sipush 32000, 3) := by decide +kernel
theorem d_method_4_code_70 : decode method_4_code 70 = .ok (.if_icmp .gt 7, 3) := by decide +kernel
theorem d_method_4_code_73 : decode method_4_code 73 = .ok (.sipush 32000, 3) := by decide +kernel
theorem d_method_4_code_76 : decode method_4_code 76 = .ok (.ireturn, 1) := by decide +kernel
theorem d_method_4_code_77 : decode method_4_code 77 = .ok (.iload_n 0, 1) := by decide +kernel
theorem d_method_4_code_78 : decode method_4_code 78 = .ok (.ldc 27, 2) := by decide +kernel
theorem d_method_4_code_80 : decode method_4_code 80 = .ok (.if_icmp .gt 6, 3) := by decide +kernel
theorem d_method_4_code_83 : decode method_4_code 83 = .ok (.ldc 27, 2) := by decide +kernel
theorem d_method_4_code_85 : decode method_4_code 85 = .ok (.ireturn, 1) := by decide +kernel
theorem d_method_4_code_86 : decode method_4_code 86 = .ok (.iload_n 0, 1) := by decide +kernel
theorem d_method_4_code_87 : decode method_4_code 87 = .ok (.ldc 28, 2) := by decide +kernel
theorem d_method_4_code_89 : decode method_4_code 89 = .ok (.if_icmp .gt 6, 3) := by decide +kernel
theorem d_method_4_code_92 : decode method_4_code 92 = .ok (.ldc 28, 2) := by decide +kernel
theorem d_method_4_code_94 : decode method_4_code 94 = .ok (.ireturn, 1) := by decide +kernel
theorem d_method_4_code_95 : decode method_4_code 95 = .ok (.iload_n 0, 1) := by decide +kernel
theorem d_method_4_code_96 : decode method_4_code 96 = .ok (.ldc 29, 2) := by decide +kernel
theorem d_method_4_code_98 : decode method_4_code 98 = .ok (.if_icmp .gt 6, 3) := by decide +kernel
theorem d_method_4_code_101 : decode method_4_code 101 = .ok (.ldc 29, 2) := by decide +kernel
theorem d_method_4_code_103 : decode method_4_code 103 = .ok (.ireturn, 1) := by decide +kernel
theorem d_method_4_code_104 : decode method_4_code 104 = .ok (.iload_n 0, 1) := by decide +kernel
theorem d_method_4_code_105 : decode method_4_code 105 = .ok (.ldc 30, 2) := by decide +kernel
theorem d_method_4_code_107 : decode method_4_code 107 = .ok (.if_icmp .gt 6, 3) := by decide +kernel
theorem d_method_4_code_110 : decode method_4_code 110 = .ok (.ldc 30, 2) := by decide +kernel
theorem d_method_4_code_112 : decode method_4_code 112 = .ok (.ireturn, 1) := by decide +kernel
theorem d_method_4_code_113 : decode method_4_code 113 = .ok (.ldc 31, 2) := by decide +kernel
theorem d_method_4_code_115 : decode method_4_code 115 = .ok (.ireturn, 1) := by decide +kernel
set_option maxRecDepth 65536 in
set_option maxHeartbeats 40000000 in
theorem own_e (l : Launch) (Z : State) (a0 : Array Value) (hw : ∀ d ∈ tables_1, d.before a0 Z = true) (p1 : Int32) (h0 : Heap)  :
    own_Met l Z (⟨"com/example/lazytail/lazytail/media/SourceAudioRenditionRatePinLaw", "expected", "(I)I"⟩ : MethodName) [Jvm.Cond.code (⟨"com/example/lazytail/lazytail/media/SourceAudioRenditionRatePinLaw", "expected", "(I)I"⟩ : MethodName) method_4_code 1 (some .int)] ({ frames := 0, cells := 0, slots := 0, locals := 0 } : Room) #[(.int p1)] h0 (own_Q (some (.int (own_ex p1))) h0) := by
  refine MetFree.of_bodySF (plainFor_of_name pn_2) hisR ?_
  intro p e s m args below meth c s₁ Bd hml0 hP hK
  obtain ⟨rfl, hZ, hh⟩ := hP
  have hx := Bd.exec
  have hby := Bd.bytes
  have hml : c.maxLocals = 1 := hml0
  have hown : s.vm.findClass "com/example/lazytail/lazytail/media/SourceAudioRenditionRatePinLaw" = some m.cls := findClass_of_methodNamed Bd.named
  have hnm := (name_of_methodNamed Bd.named Bd.method).1
  have hlk : meth.locks = false := BodyLoose.notSynchronized Bd
  have X0 : Stand p l e ({ frames := 0, cells := 0, slots := 0, locals := 0 } : Room) s m #[(.int p1)] below meth c s₁ [] 0 0 := Stand.of_body Bd
  have e0 : s₁.heap = h0 := by rw [← hh, Bd.state]; rfl
  show own_Go p e below (own_End s (own_Q (some (.int (own_ex p1))) h0) 0 0) s₁ (entryFrame m #[(.int p1)] 1)
  refine own_start (g' := mkF m 0 #[.val (.int p1)] []) (by first | rfl | (simp [entryFrame, mkF, argsToLocals, Value.category, maxLocals]; done)) ?_
  refine own_via (T' := s₁) (g' := (mkF m 1 #[.val (.int p1)] [(.int p1)])) (fun t k => XS.iloadN X0.here hx rfl (hb hby d_method_4_code_0) rfl k) ?_
  refine own_via (T' := s₁) (g' := (mkF m 4 #[.val (.int p1)] [(.int (8000 : Int32)), (.int p1)])) (fun t k => XS.sipush X0.here hx rfl (hb hby d_method_4_code_1) k) ?_
  by_cases hc1 : (8000 : Int32) < p1
  · refine own_via (T' := s₁) (g' := (mkF m 11 #[.val (.int p1)] [])) (fun t k => XS.icmpYes X0.here hx rfl (pc0 := 4) (pc' := 11) rfl (hb hby d_method_4_code_4) rfl (tlt hc1).2.2.1 (by decide) (by decide) k) ?_
    refine own_via (T' := s₁) (g' := (mkF m 12 #[.val (.int p1)] [(.int p1)])) (fun t k => XS.iloadN X0.here hx rfl (hb hby d_method_4_code_11) rfl k) ?_
    refine own_via (T' := s₁) (g' := (mkF m 15 #[.val (.int p1)] [(.int (11025 : Int32)), (.int p1)])) (fun t k => XS.sipush X0.here hx rfl (hb hby d_method_4_code_12) k) ?_
    by_cases hc2 : (11025 : Int32) < p1
    · refine own_via (T' := s₁) (g' := (mkF m 22 #[.val (.int p1)] [])) (fun t k => XS.icmpYes X0.here hx rfl (pc0 := 15) (pc' := 22) rfl (hb hby d_method_4_code_15) rfl (tlt hc2).2.2.1 (by decide) (by decide) k) ?_
      refine own_via (T' := s₁) (g' := (mkF m 23 #[.val (.int p1)] [(.int p1)])) (fun t k => XS.iloadN X0.here hx rfl (hb hby d_method_4_code_22) rfl k) ?_
      refine own_via (T' := s₁) (g' := (mkF m 26 #[.val (.int p1)] [(.int (12000 : Int32)), (.int p1)])) (fun t k => XS.sipush X0.here hx rfl (hb hby d_method_4_code_23) k) ?_
      by_cases hc3 : (12000 : Int32) < p1
      · refine own_via (T' := s₁) (g' := (mkF m 33 #[.val (.int p1)] [])) (fun t k => XS.icmpYes X0.here hx rfl (pc0 := 26) (pc' := 33) rfl (hb hby d_method_4_code_26) rfl (tlt hc3).2.2.1 (by decide) (by decide) k) ?_
        refine own_via (T' := s₁) (g' := (mkF m 34 #[.val (.int p1)] [(.int p1)])) (fun t k => XS.iloadN X0.here hx rfl (hb hby d_method_4_code_33) rfl k) ?_
        refine own_via (T' := s₁) (g' := (mkF m 37 #[.val (.int p1)] [(.int (16000 : Int32)), (.int p1)])) (fun t k => XS.sipush X0.here hx rfl (hb hby d_method_4_code_34) k) ?_
        by_cases hc4 : (16000 : Int32) < p1
        · refine own_via (T' := s₁) (g' := (mkF m 44 #[.val (.int p1)] [])) (fun t k => XS.icmpYes X0.here hx rfl (pc0 := 37) (pc' := 44) rfl (hb hby d_method_4_code_37) rfl (tlt hc4).2.2.1 (by decide) (by decide) k) ?_
          refine own_via (T' := s₁) (g' := (mkF m 45 #[.val (.int p1)] [(.int p1)])) (fun t k => XS.iloadN X0.here hx rfl (hb hby d_method_4_code_44) rfl k) ?_
          refine own_via (T' := s₁) (g' := (mkF m 48 #[.val (.int p1)] [(.int (22050 : Int32)), (.int p1)])) (fun t k => XS.sipush X0.here hx rfl (hb hby d_method_4_code_45) k) ?_
          by_cases hc5 : (22050 : Int32) < p1
          · refine own_via (T' := s₁) (g' := (mkF m 55 #[.val (.int p1)] [])) (fun t k => XS.icmpYes X0.here hx rfl (pc0 := 48) (pc' := 55) rfl (hb hby d_method_4_code_48) rfl (tlt hc5).2.2.1 (by decide) (by decide) k) ?_
            refine own_via (T' := s₁) (g' := (mkF m 56 #[.val (.int p1)] [(.int p1)])) (fun t k => XS.iloadN X0.here hx rfl (hb hby d_method_4_code_55) rfl k) ?_
            refine own_via (T' := s₁) (g' := (mkF m 59 #[.val (.int p1)] [(.int (24000 : Int32)), (.int p1)])) (fun t k => XS.sipush X0.here hx rfl (hb hby d_method_4_code_56) k) ?_
            by_cases hc6 : (24000 : Int32) < p1
            · refine own_via (T' := s₁) (g' := (mkF m 66 #[.val (.int p1)] [])) (fun t k => XS.icmpYes X0.here hx rfl (pc0 := 59) (pc' := 66) rfl (hb hby d_method_4_code_59) rfl (tlt hc6).2.2.1 (by decide) (by decide) k) ?_
              refine own_via (T' := s₁) (g' := (mkF m 67 #[.val (.int p1)] [(.int p1)])) (fun t k => XS.iloadN X0.here hx rfl (hb hby d_method_4_code_66) rfl k) ?_
              refine own_via (T' := s₁) (g' := (mkF m 70 #[.val (.int p1)] [(.int (32000 : Int32)), (.int p1)])) (fun t k => XS.sipush X0.here hx rfl (hb hby d_method_4_code_67) k) ?_
              by_cases hc7 : (32000 : Int32) < p1
              · refine own_via (T' := s₁) (g' := (mkF m 77 #[.val (.int p1)] [])) (fun t k => XS.icmpYes X0.here hx rfl (pc0 := 70) (pc' := 77) rfl (hb hby d_method_4_code_70) rfl (tlt hc7).2.2.1 (by decide) (by decide) k) ?_
                refine own_via (T' := s₁) (g' := (mkF m 78 #[.val (.int p1)] [(.int p1)])) (fun t k => XS.iloadN X0.here hx rfl (hb hby d_method_4_code_77) rfl k) ?_
                refine own_via (T' := s₁) (g' := (mkF m 80 #[.val (.int p1)] [(.int (44100 : Int32)), (.int p1)])) (fun t k => Stand.ldcI (g := (mkF m 78 #[.val (.int p1)] [(.int p1)])) X0 hx hown (mvT hZ (hw _ (List.mem_of_getElem? (i := 36) rfl))) rfl (hb hby d_method_4_code_78) k) ?_
                by_cases hc8 : (44100 : Int32) < p1
                · refine own_via (T' := s₁) (g' := (mkF m 86 #[.val (.int p1)] [])) (fun t k => XS.icmpYes X0.here hx rfl (pc0 := 80) (pc' := 86) rfl (hb hby d_method_4_code_80) rfl (tlt hc8).2.2.1 (by decide) (by decide) k) ?_
                  refine own_via (T' := s₁) (g' := (mkF m 87 #[.val (.int p1)] [(.int p1)])) (fun t k => XS.iloadN X0.here hx rfl (hb hby d_method_4_code_86) rfl k) ?_
                  refine own_via (T' := s₁) (g' := (mkF m 89 #[.val (.int p1)] [(.int (48000 : Int32)), (.int p1)])) (fun t k => Stand.ldcI (g := (mkF m 87 #[.val (.int p1)] [(.int p1)])) X0 hx hown (mvT hZ (hw _ (List.mem_of_getElem? (i := 37) rfl))) rfl (hb hby d_method_4_code_87) k) ?_
                  by_cases hc9 : (48000 : Int32) < p1
                  · refine own_via (T' := s₁) (g' := (mkF m 95 #[.val (.int p1)] [])) (fun t k => XS.icmpYes X0.here hx rfl (pc0 := 89) (pc' := 95) rfl (hb hby d_method_4_code_89) rfl (tlt hc9).2.2.1 (by decide) (by decide) k) ?_
                    refine own_via (T' := s₁) (g' := (mkF m 96 #[.val (.int p1)] [(.int p1)])) (fun t k => XS.iloadN X0.here hx rfl (hb hby d_method_4_code_95) rfl k) ?_
                    refine own_via (T' := s₁) (g' := (mkF m 98 #[.val (.int p1)] [(.int (64000 : Int32)), (.int p1)])) (fun t k => Stand.ldcI (g := (mkF m 96 #[.val (.int p1)] [(.int p1)])) X0 hx hown (mvT hZ (hw _ (List.mem_of_getElem? (i := 38) rfl))) rfl (hb hby d_method_4_code_96) k) ?_
                    by_cases hc10 : (64000 : Int32) < p1
                    · refine own_via (T' := s₁) (g' := (mkF m 104 #[.val (.int p1)] [])) (fun t k => XS.icmpYes X0.here hx rfl (pc0 := 98) (pc' := 104) rfl (hb hby d_method_4_code_98) rfl (tlt hc10).2.2.1 (by decide) (by decide) k) ?_
                      refine own_via (T' := s₁) (g' := (mkF m 105 #[.val (.int p1)] [(.int p1)])) (fun t k => XS.iloadN X0.here hx rfl (hb hby d_method_4_code_104) rfl k) ?_
                      refine own_via (T' := s₁) (g' := (mkF m 107 #[.val (.int p1)] [(.int (88200 : Int32)), (.int p1)])) (fun t k => Stand.ldcI (g := (mkF m 105 #[.val (.int p1)] [(.int p1)])) X0 hx hown (mvT hZ (hw _ (List.mem_of_getElem? (i := 39) rfl))) rfl (hb hby d_method_4_code_105) k) ?_
                      by_cases hc11 : (88200 : Int32) < p1
                      · refine own_via (T' := s₁) (g' := (mkF m 113 #[.val (.int p1)] [])) (fun t k => XS.icmpYes X0.here hx rfl (pc0 := 107) (pc' := 113) rfl (hb hby d_method_4_code_107) rfl (tlt hc11).2.2.1 (by decide) (by decide) k) ?_
                        refine own_via (T' := s₁) (g' := (mkF m 115 #[.val (.int p1)] [(.int (96000 : Int32))])) (fun t k => Stand.ldcI (g := (mkF m 113 #[.val (.int p1)] [])) X0 hx hown (mvT hZ (hw _ (List.mem_of_getElem? (i := 35) rfl))) rfl (hb hby d_method_4_code_113) k) ?_
                        exact own_ret (t := .int) X0 hx Bd.returns hlk rfl (Or.inl ⟨rfl, by simp, _, rfl⟩) (hb hby d_method_4_code_115) (by decide) (by decide) ⟨by simp [own_ex, hc1, hc2, hc3, hc4, hc5, hc6, hc7, hc8, hc9, hc10, hc11], rfl, e0⟩
                      · refine own_via (T' := s₁) (g' := (mkF m 110 #[.val (.int p1)] [])) (fun t k => XS.icmpNo X0.here hx rfl (hb hby d_method_4_code_107) rfl (flt hc11).2.2.1 k) ?_
                        refine own_via (T' := s₁) (g' := (mkF m 112 #[.val (.int p1)] [(.int (88200 : Int32))])) (fun t k => Stand.ldcI (g := (mkF m 110 #[.val (.int p1)] [])) X0 hx hown (mvT hZ (hw _ (List.mem_of_getElem? (i := 39) rfl))) rfl (hb hby d_method_4_code_110) k) ?_
                        exact own_ret (t := .int) X0 hx Bd.returns hlk rfl (Or.inl ⟨rfl, by simp, _, rfl⟩) (hb hby d_method_4_code_112) (by decide) (by decide) ⟨by simp [own_ex, hc1, hc2, hc3, hc4, hc5, hc6, hc7, hc8, hc9, hc10, hc11], rfl, e0⟩
                    · refine own_via (T' := s₁) (g' := (mkF m 101 #[.val (.int p1)] [])) (fun t k => XS.icmpNo X0.here hx rfl (hb hby d_method_4_code_98) rfl (flt hc10).2.2.1 k) ?_
                      refine own_via (T' := s₁) (g' := (mkF m 103 #[.val (.int p1)] [(.int (64000 : Int32))])) (fun t k => Stand.ldcI (g := (mkF m 101 #[.val (.int p1)] [])) X0 hx hown (mvT hZ (hw _ (List.mem_of_getElem? (i := 38) rfl))) rfl (hb hby d_method_4_code_101) k) ?_
                      exact own_ret (t := .int) X0 hx Bd.returns hlk rfl (Or.inl ⟨rfl, by simp, _, rfl⟩) (hb hby d_method_4_code_103) (by decide) (by decide) ⟨by simp [own_ex, hc1, hc2, hc3, hc4, hc5, hc6, hc7, hc8, hc9, hc10], rfl, e0⟩
                  · refine own_via (T' := s₁) (g' := (mkF m 92 #[.val (.int p1)] [])) (fun t k => XS.icmpNo X0.here hx rfl (hb hby d_method_4_code_89) rfl (flt hc9).2.2.1 k) ?_
                    refine own_via (T' := s₁) (g' := (mkF m 94 #[.val (.int p1)] [(.int (48000 : Int32))])) (fun t k => Stand.ldcI (g := (mkF m 92 #[.val (.int p1)] [])) X0 hx hown (mvT hZ (hw _ (List.mem_of_getElem? (i := 37) rfl))) rfl (hb hby d_method_4_code_92) k) ?_
                    exact own_ret (t := .int) X0 hx Bd.returns hlk rfl (Or.inl ⟨rfl, by simp, _, rfl⟩) (hb hby d_method_4_code_94) (by decide) (by decide) ⟨by simp [own_ex, hc1, hc2, hc3, hc4, hc5, hc6, hc7, hc8, hc9], rfl, e0⟩
                · refine own_via (T' := s₁) (g' := (mkF m 83 #[.val (.int p1)] [])) (fun t k => XS.icmpNo X0.here hx rfl (hb hby d_method_4_code_80) rfl (flt hc8).2.2.1 k) ?_
                  refine own_via (T' := s₁) (g' := (mkF m 85 #[.val (.int p1)] [(.int (44100 : Int32))])) (fun t k => Stand.ldcI (g := (mkF m 83 #[.val (.int p1)] [])) X0 hx hown (mvT hZ (hw _ (List.mem_of_getElem? (i := 36) rfl))) rfl (hb hby d_method_4_code_83) k) ?_
                  exact own_ret (t := .int) X0 hx Bd.returns hlk rfl (Or.inl ⟨rfl, by simp, _, rfl⟩) (hb hby d_method_4_code_85) (by decide) (by decide) ⟨by simp [own_ex, hc1, hc2, hc3, hc4, hc5, hc6, hc7, hc8], rfl, e0⟩
              · refine own_via (T' := s₁) (g' := (mkF m 73 #[.val (.int p1)] [])) (fun t k => XS.icmpNo X0.here hx rfl (hb hby d_method_4_code_70) rfl (flt hc7).2.2.1 k) ?_
                refine own_via (T' := s₁) (g' := (mkF m 76 #[.val (.int p1)] [(.int (32000 : Int32))])) (fun t k => XS.sipush X0.here hx rfl (hb hby d_method_4_code_73) k) ?_
                exact own_ret (t := .int) X0 hx Bd.returns hlk rfl (Or.inl ⟨rfl, by simp, _, rfl⟩) (hb hby d_method_4_code_76) (by decide) (by decide) ⟨by simp [own_ex, hc1, hc2, hc3, hc4, hc5, hc6, hc7], rfl, e0⟩
            · refine own_via (T' := s₁) (g' := (mkF m 62 #[.val (.int p1)] [])) (fun t k => XS.icmpNo X0.here hx rfl (hb hby d_method_4_code_59) rfl (flt hc6).2.2.1 k) ?_
              refine own_via (T' := s₁) (g' := (mkF m 65 #[.val (.int p1)] [(.int (24000 : Int32))])) (fun t k => XS.sipush X0.here hx rfl (hb hby d_method_4_code_62) k) ?_
              exact own_ret (t := .int) X0 hx Bd.returns hlk rfl (Or.inl ⟨rfl, by simp, _, rfl⟩) (hb hby d_method_4_code_65) (by decide) (by decide) ⟨by simp [own_ex, hc1, hc2, hc3, hc4, hc5, hc6], rfl, e0⟩
          · refine own_via (T' := s₁) (g' := (mkF m 51 #[.val (.int p1)] [])) (fun t k => XS.icmpNo X0.here hx rfl (hb hby d_method_4_code_48) rfl (flt hc5).2.2.1 k) ?_
            refine own_via (T' := s₁) (g' := (mkF m 54 #[.val (.int p1)] [(.int (22050 : Int32))])) (fun t k => XS.sipush X0.here hx rfl (hb hby d_method_4_code_51) k) ?_
            exact own_ret (t := .int) X0 hx Bd.returns hlk rfl (Or.inl ⟨rfl, by simp, _, rfl⟩) (hb hby d_method_4_code_54) (by decide) (by decide) ⟨by simp [own_ex, hc1, hc2, hc3, hc4, hc5], rfl, e0⟩
        · refine own_via (T' := s₁) (g' := (mkF m 40 #[.val (.int p1)] [])) (fun t k => XS.icmpNo X0.here hx rfl (hb hby d_method_4_code_37) rfl (flt hc4).2.2.1 k) ?_
          refine own_via (T' := s₁) (g' := (mkF m 43 #[.val (.int p1)] [(.int (16000 : Int32))])) (fun t k => XS.sipush X0.here hx rfl (hb hby d_method_4_code_40) k) ?_
          exact own_ret (t := .int) X0 hx Bd.returns hlk rfl (Or.inl ⟨rfl, by simp, _, rfl⟩) (hb hby d_method_4_code_43) (by decide) (by decide) ⟨by simp [own_ex, hc1, hc2, hc3, hc4], rfl, e0⟩
      · refine own_via (T' := s₁) (g' := (mkF m 29 #[.val (.int p1)] [])) (fun t k => XS.icmpNo X0.here hx rfl (hb hby d_method_4_code_26) rfl (flt hc3).2.2.1 k) ?_
        refine own_via (T' := s₁) (g' := (mkF m 32 #[.val (.int p1)] [(.int (12000 : Int32))])) (fun t k => XS.sipush X0.here hx rfl (hb hby d_method_4_code_29) k) ?_
        exact own_ret (t := .int) X0 hx Bd.returns hlk rfl (Or.inl ⟨rfl, by simp, _, rfl⟩) (hb hby d_method_4_code_32) (by decide) (by decide) ⟨by simp [own_ex, hc1, hc2, hc3], rfl, e0⟩
    · refine own_via (T' := s₁) (g' := (mkF m 18 #[.val (.int p1)] [])) (fun t k => XS.icmpNo X0.here hx rfl (hb hby d_method_4_code_15) rfl (flt hc2).2.2.1 k) ?_
      refine own_via (T' := s₁) (g' := (mkF m 21 #[.val (.int p1)] [(.int (11025 : Int32))])) (fun t k => XS.sipush X0.here hx rfl (hb hby d_method_4_code_18) k) ?_
      exact own_ret (t := .int) X0 hx Bd.returns hlk rfl (Or.inl ⟨rfl, by simp, _, rfl⟩) (hb hby d_method_4_code_21) (by decide) (by decide) ⟨by simp [own_ex, hc1, hc2], rfl, e0⟩
  · refine own_via (T' := s₁) (g' := (mkF m 7 #[.val (.int p1)] [])) (fun t k => XS.icmpNo X0.here hx rfl (hb hby d_method_4_code_4) rfl (flt hc1).2.2.1 k) ?_
    refine own_via (T' := s₁) (g' := (mkF m 10 #[.val (.int p1)] [(.int (8000 : Int32))])) (fun t k => XS.sipush X0.here hx rfl (hb hby d_method_4_code_7) k) ?_
    exact own_ret (t := .int) X0 hx Bd.returns hlk rfl (Or.inl ⟨rfl, by simp, _, rfl⟩) (hb hby d_method_4_code_10) (by decide) (by decide) ⟨by simp [own_ex, hc1], rfl, e0⟩
def own_rate (i : Int32) : Int32 := if i = (0 : Int32) then (8000 : Int32) else (if i = (1 : Int32) then (11025 : Int32) else (if i = (2 : Int32) then (12000 : Int32) else (if i = (3 : Int32) then (16000 : Int32) else (if i = (4 : Int32) then (22050 : Int32) else (if i = (5 : Int32) then (24000 : Int32) else (if i = (6 : Int32) then (32000 : Int32) else (if i = (7 : Int32) then (44100 : Int32) else (if i = (8 : Int32) then (48000 : Int32) else (if i = (9 : Int32) then (64000 : Int32) else (if i = (10 : Int32) then (88200 : Int32) else (96000 : Int32)))))))))))
theorem d_method_3_code_0 : decode method_3_code 0 = .ok (.iload_n 0, 1) := by decide +kernel
theorem d_method_3_code_1 : decode method_3_code 1 = .ok (.ifCond .ne 7, 3) := by decide +kernel
theorem d_method_3_code_4 : decode method_3_code 4 = .ok (.sipush 8000, 3) := by decide +kernel
theorem d_method_3_code_7 : decode method_3_code 7 = .ok (.ireturn, 1) := by decide +kernel
theorem d_method_3_code_8 : decode method_3_code 8 = .ok (.iload_n 0, 1) := by decide +kernel
theorem d_method_3_code_9 : decode method_3_code 9 = .ok (.iconst 1, 1) := by decide +kernel
theorem d_method_3_code_10 : decode method_3_code 10 = .ok (.if_icmp .ne 7, 3) := by decide +kernel
theorem d_method_3_code_13 : decode method_3_code 13 = .ok (.sipush 11025, 3) := by decide +kernel
theorem d_method_3_code_16 : decode method_3_code 16 = .ok (.ireturn, 1) := by decide +kernel
theorem d_method_3_code_17 : decode method_3_code 17 = .ok (.iload_n 0, 1) := by decide +kernel
theorem d_method_3_code_18 : decode method_3_code 18 = .ok (.iconst 2, 1) := by decide +kernel
theorem d_method_3_code_19 : decode method_3_code 19 = .ok (.if_icmp .ne 7, 3) := by decide +kernel
theorem d_method_3_code_22 : decode method_3_code 22 = .ok (.sipush 12000, 3) := by decide +kernel
theorem d_method_3_code_25 : decode method_3_code 25 = .ok (.ireturn, 1) := by decide +kernel
theorem d_method_3_code_26 : decode method_3_code 26 = .ok (.iload_n 0, 1) := by decide +kernel
theorem d_method_3_code_27 : decode method_3_code 27 = .ok (.iconst 3, 1) := by decide +kernel
theorem d_method_3_code_28 : decode method_3_code 28 = .ok (.if_icmp .ne 7, 3) := by decide +kernel
theorem d_method_3_code_31 : decode method_3_code 31 = .ok (.sipush 16000, 3) := by decide +kernel
theorem d_method_3_code_34 : decode method_3_code 34 = .ok (.ireturn, 1) := by decide +kernel
theorem d_method_3_code_35 : decode method_3_code 35 = .ok (.iload_n 0, 1) := by decide +kernel
theorem d_method_3_code_36 : decode method_3_code 36 = .ok (.iconst 4, 1) := by decide +kernel
theorem d_method_3_code_37 : decode method_3_code 37 = .ok (.if_icmp .ne 7, 3) := by decide +kernel
theorem d_method_3_code_40 : decode method_3_code 40 = .ok (.sipush 22050, 3) := by decide +kernel
theorem d_method_3_code_43 : decode method_3_code 43 = .ok (.ireturn, 1) := by decide +kernel
theorem d_method_3_code_44 : decode method_3_code 44 = .ok (.iload_n 0, 1) := by decide +kernel
theorem d_method_3_code_45 : decode method_3_code 45 = .ok (.iconst 5, 1) := by decide +kernel
theorem d_method_3_code_46 : decode method_3_code 46 = .ok (.if_icmp .ne 7, 3) := by decide +kernel
theorem d_method_3_code_49 : decode method_3_code 49 = .ok (.sipush 24000, 3) := by decide +kernel
theorem d_method_3_code_52 : decode method_3_code 52 = .ok (.ireturn, 1) := by decide +kernel
theorem d_method_3_code_53 : decode method_3_code 53 = .ok (.iload_n 0, 1) := by decide +kernel
theorem d_method_3_code_54 : decode method_3_code 54 = .ok (.bipush 6, 2) := by decide +kernel
theorem d_method_3_code_56 : decode method_3_code 56 = .ok (.if_icmp .ne 7, 3) := by decide +kernel
theorem d_method_3_code_59 : decode method_3_code 59 = .ok (.sipush 32000, 3) := by decide +kernel
theorem d_method_3_code_62 : decode method_3_code 62 = .ok (.ireturn, 1) := by decide +kernel
theorem d_method_3_code_63 : decode method_3_code 63 = .ok (.iload_n 0, 1) := by decide +kernel
theorem d_method_3_code_64 : decode method_3_code 64 = .ok (.bipush 7, 2) := by decide +kernel
theorem d_method_3_code_66 : decode method_3_code 66 = .ok (.if_icmp .ne 6, 3) := by decide +kernel
theorem d_method_3_code_69 : decode method_3_code 69 = .ok (.ldc 27, 2) := by decide +kernel
theorem d_method_3_code_71 : decode method_3_code 71 = .ok (.ireturn, 1) := by decide +kernel
theorem d_method_3_code_72 : decode method_3_code 72 = .ok (.iload_n 0, 1) := by decide +kernel
theorem d_method_3_code_73 : decode method_3_code 73 = .ok (.bipush 8, 2) := by decide +kernel
theorem d_method_3_code_75 : decode method_3_code 75 = .ok (.if_icmp .ne 6, 3) := by decide +kernel
theorem d_method_3_code_78 : decode method_3_code 78 = .ok (.ldc 28, 2) := by decide +kernel
theorem d_method_3_code_80 : decode method_3_code 80 = .ok (.ireturn, 1) := by decide +kernel
theorem d_method_3_code_81 : decode method_3_code 81 = .ok (.iload_n 0, 1) := by decide +kernel
theorem d_method_3_code_82 : decode method_3_code 82 = .ok (.bipush 9, 2) := by decide +kernel
theorem d_method_3_code_84 : decode method_3_code 84 = .ok (.if_icmp .ne 6, 3) := by decide +kernel
theorem d_method_3_code_87 : decode method_3_code 87 = .ok (.ldc 29, 2) := by decide +kernel
theorem d_method_3_code_89 : decode method_3_code 89 = .ok (.ireturn, 1) := by decide +kernel
theorem d_method_3_code_90 : decode method_3_code 90 = .ok (.iload_n 0, 1) := by decide +kernel
theorem d_method_3_code_91 : decode method_3_code 91 = .ok (.bipush 10, 2) := by decide +kernel
theorem d_method_3_code_93 : decode method_3_code 93 = .ok (.if_icmp .ne 6, 3) := by decide +kernel
theorem d_method_3_code_96 : decode method_3_code 96 = .ok (.ldc 30, 2) := by decide +kernel
theorem d_method_3_code_98 : decode method_3_code 98 = .ok (.ireturn, 1) := by decide +kernel
theorem d_method_3_code_99 : decode method_3_code 99 = .ok (.ldc 31, 2) := by decide +kernel
theorem d_method_3_code_101 : decode method_3_code 101 = .ok (.ireturn, 1) := by decide +kernel
set_option maxRecDepth 65536 in
set_option maxHeartbeats 40000000 in
theorem own_ra (l : Launch) (Z : State) (a0 : Array Value) (hw : ∀ d ∈ tables_1, d.before a0 Z = true) (p1 : Int32) (h0 : Heap)  :
    own_Met l Z (⟨"com/example/lazytail/lazytail/media/SourceAudioRenditionRatePinLaw", "rateAt", "(I)I"⟩ : MethodName) [Jvm.Cond.code (⟨"com/example/lazytail/lazytail/media/SourceAudioRenditionRatePinLaw", "rateAt", "(I)I"⟩ : MethodName) method_3_code 1 (some .int)] ({ frames := 0, cells := 0, slots := 0, locals := 0 } : Room) #[(.int p1)] h0 (own_Q (some (.int (own_rate p1))) h0) := by
  refine MetFree.of_bodySF (plainFor_of_name pn_2) hisR ?_
  intro p e s m args below meth c s₁ Bd hml0 hP hK
  obtain ⟨rfl, hZ, hh⟩ := hP
  have hx := Bd.exec
  have hby := Bd.bytes
  have hml : c.maxLocals = 1 := hml0
  have hown : s.vm.findClass "com/example/lazytail/lazytail/media/SourceAudioRenditionRatePinLaw" = some m.cls := findClass_of_methodNamed Bd.named
  have hnm := (name_of_methodNamed Bd.named Bd.method).1
  have hlk : meth.locks = false := BodyLoose.notSynchronized Bd
  have X0 : Stand p l e ({ frames := 0, cells := 0, slots := 0, locals := 0 } : Room) s m #[(.int p1)] below meth c s₁ [] 0 0 := Stand.of_body Bd
  have e0 : s₁.heap = h0 := by rw [← hh, Bd.state]; rfl
  show own_Go p e below (own_End s (own_Q (some (.int (own_rate p1))) h0) 0 0) s₁ (entryFrame m #[(.int p1)] 1)
  refine own_start (g' := mkF m 0 #[.val (.int p1)] []) (by first | rfl | (simp [entryFrame, mkF, argsToLocals, Value.category, maxLocals]; done)) ?_
  refine own_via (T' := s₁) (g' := (mkF m 1 #[.val (.int p1)] [(.int p1)])) (fun t k => XS.iloadN X0.here hx rfl (hb hby d_method_3_code_0) rfl k) ?_
  by_cases hc1 : p1 = (0 : Int32)
  · refine own_via (T' := s₁) (g' := (mkF m 4 #[.val (.int p1)] [])) (fun t k => XS.ifNo X0.here hx rfl (hb hby d_method_3_code_1) rfl ((if0 _ _).trans (teq hc1).2) k) ?_
    refine own_via (T' := s₁) (g' := (mkF m 7 #[.val (.int p1)] [(.int (8000 : Int32))])) (fun t k => XS.sipush X0.here hx rfl (hb hby d_method_3_code_4) k) ?_
    exact own_ret (t := .int) X0 hx Bd.returns hlk rfl (Or.inl ⟨rfl, by simp, _, rfl⟩) (hb hby d_method_3_code_7) (by decide) (by decide) ⟨by simp [own_rate, hc1], rfl, e0⟩
  · refine own_via (T' := s₁) (g' := (mkF m 8 #[.val (.int p1)] [])) (fun t k => XS.ifYes X0.here hx rfl (pc0 := 1) (pc' := 8) rfl (hb hby d_method_3_code_1) rfl ((if0 _ _).trans (feq hc1).2) (by decide) (by decide) k) ?_
    refine own_via (T' := s₁) (g' := (mkF m 9 #[.val (.int p1)] [(.int p1)])) (fun t k => XS.iloadN X0.here hx rfl (hb hby d_method_3_code_8) rfl k) ?_
    refine own_via (T' := s₁) (g' := (mkF m 10 #[.val (.int p1)] [(.int (1 : Int32)), (.int p1)])) (fun t k => XS.iconst X0.here hx rfl (hb hby d_method_3_code_9) k) ?_
    by_cases hc2 : p1 = (1 : Int32)
    · refine own_via (T' := s₁) (g' := (mkF m 13 #[.val (.int p1)] [])) (fun t k => XS.icmpNo X0.here hx rfl (hb hby d_method_3_code_10) rfl (teq hc2).2 k) ?_
      refine own_via (T' := s₁) (g' := (mkF m 16 #[.val (.int p1)] [(.int (11025 : Int32))])) (fun t k => XS.sipush X0.here hx rfl (hb hby d_method_3_code_13) k) ?_
      exact own_ret (t := .int) X0 hx Bd.returns hlk rfl (Or.inl ⟨rfl, by simp, _, rfl⟩) (hb hby d_method_3_code_16) (by decide) (by decide) ⟨by simp [own_rate, hc1, hc2], rfl, e0⟩
    · refine own_via (T' := s₁) (g' := (mkF m 17 #[.val (.int p1)] [])) (fun t k => XS.icmpYes X0.here hx rfl (pc0 := 10) (pc' := 17) rfl (hb hby d_method_3_code_10) rfl (feq hc2).2 (by decide) (by decide) k) ?_
      refine own_via (T' := s₁) (g' := (mkF m 18 #[.val (.int p1)] [(.int p1)])) (fun t k => XS.iloadN X0.here hx rfl (hb hby d_method_3_code_17) rfl k) ?_
      refine own_via (T' := s₁) (g' := (mkF m 19 #[.val (.int p1)] [(.int (2 : Int32)), (.int p1)])) (fun t k => XS.iconst X0.here hx rfl (hb hby d_method_3_code_18) k) ?_
      by_cases hc3 : p1 = (2 : Int32)
      · refine own_via (T' := s₁) (g' := (mkF m 22 #[.val (.int p1)] [])) (fun t k => XS.icmpNo X0.here hx rfl (hb hby d_method_3_code_19) rfl (teq hc3).2 k) ?_
        refine own_via (T' := s₁) (g' := (mkF m 25 #[.val (.int p1)] [(.int (12000 : Int32))])) (fun t k => XS.sipush X0.here hx rfl (hb hby d_method_3_code_22) k) ?_
        exact own_ret (t := .int) X0 hx Bd.returns hlk rfl (Or.inl ⟨rfl, by simp, _, rfl⟩) (hb hby d_method_3_code_25) (by decide) (by decide) ⟨by simp [own_rate, hc1, hc2, hc3], rfl, e0⟩
      · refine own_via (T' := s₁) (g' := (mkF m 26 #[.val (.int p1)] [])) (fun t k => XS.icmpYes X0.here hx rfl (pc0 := 19) (pc' := 26) rfl (hb hby d_method_3_code_19) rfl (feq hc3).2 (by decide) (by decide) k) ?_
        refine own_via (T' := s₁) (g' := (mkF m 27 #[.val (.int p1)] [(.int p1)])) (fun t k => XS.iloadN X0.here hx rfl (hb hby d_method_3_code_26) rfl k) ?_
        refine own_via (T' := s₁) (g' := (mkF m 28 #[.val (.int p1)] [(.int (3 : Int32)), (.int p1)])) (fun t k => XS.iconst X0.here hx rfl (hb hby d_method_3_code_27) k) ?_
        by_cases hc4 : p1 = (3 : Int32)
        · refine own_via (T' := s₁) (g' := (mkF m 31 #[.val (.int p1)] [])) (fun t k => XS.icmpNo X0.here hx rfl (hb hby d_method_3_code_28) rfl (teq hc4).2 k) ?_
          refine own_via (T' := s₁) (g' := (mkF m 34 #[.val (.int p1)] [(.int (16000 : Int32))])) (fun t k => XS.sipush X0.here hx rfl (hb hby d_method_3_code_31) k) ?_
          exact own_ret (t := .int) X0 hx Bd.returns hlk rfl (Or.inl ⟨rfl, by simp, _, rfl⟩) (hb hby d_method_3_code_34) (by decide) (by decide) ⟨by simp [own_rate, hc1, hc2, hc3, hc4], rfl, e0⟩
        · refine own_via (T' := s₁) (g' := (mkF m 35 #[.val (.int p1)] [])) (fun t k => XS.icmpYes X0.here hx rfl (pc0 := 28) (pc' := 35) rfl (hb hby d_method_3_code_28) rfl (feq hc4).2 (by decide) (by decide) k) ?_
          refine own_via (T' := s₁) (g' := (mkF m 36 #[.val (.int p1)] [(.int p1)])) (fun t k => XS.iloadN X0.here hx rfl (hb hby d_method_3_code_35) rfl k) ?_
          refine own_via (T' := s₁) (g' := (mkF m 37 #[.val (.int p1)] [(.int (4 : Int32)), (.int p1)])) (fun t k => XS.iconst X0.here hx rfl (hb hby d_method_3_code_36) k) ?_
          by_cases hc5 : p1 = (4 : Int32)
          · refine own_via (T' := s₁) (g' := (mkF m 40 #[.val (.int p1)] [])) (fun t k => XS.icmpNo X0.here hx rfl (hb hby d_method_3_code_37) rfl (teq hc5).2 k) ?_
            refine own_via (T' := s₁) (g' := (mkF m 43 #[.val (.int p1)] [(.int (22050 : Int32))])) (fun t k => XS.sipush X0.here hx rfl (hb hby d_method_3_code_40) k) ?_
            exact own_ret (t := .int) X0 hx Bd.returns hlk rfl (Or.inl ⟨rfl, by simp, _, rfl⟩) (hb hby d_method_3_code_43) (by decide) (by decide) ⟨by simp [own_rate, hc1, hc2, hc3, hc4, hc5], rfl, e0⟩
          · refine own_via (T' := s₁) (g' := (mkF m 44 #[.val (.int p1)] [])) (fun t k => XS.icmpYes X0.here hx rfl (pc0 := 37) (pc' := 44) rfl (hb hby d_method_3_code_37) rfl (feq hc5).2 (by decide) (by decide) k) ?_
            refine own_via (T' := s₁) (g' := (mkF m 45 #[.val (.int p1)] [(.int p1)])) (fun t k => XS.iloadN X0.here hx rfl (hb hby d_method_3_code_44) rfl k) ?_
            refine own_via (T' := s₁) (g' := (mkF m 46 #[.val (.int p1)] [(.int (5 : Int32)), (.int p1)])) (fun t k => XS.iconst X0.here hx rfl (hb hby d_method_3_code_45) k) ?_
            by_cases hc6 : p1 = (5 : Int32)
            · refine own_via (T' := s₁) (g' := (mkF m 49 #[.val (.int p1)] [])) (fun t k => XS.icmpNo X0.here hx rfl (hb hby d_method_3_code_46) rfl (teq hc6).2 k) ?_
              refine own_via (T' := s₁) (g' := (mkF m 52 #[.val (.int p1)] [(.int (24000 : Int32))])) (fun t k => XS.sipush X0.here hx rfl (hb hby d_method_3_code_49) k) ?_
              exact own_ret (t := .int) X0 hx Bd.returns hlk rfl (Or.inl ⟨rfl, by simp, _, rfl⟩) (hb hby d_method_3_code_52) (by decide) (by decide) ⟨by simp [own_rate, hc1, hc2, hc3, hc4, hc5, hc6], rfl, e0⟩
            · refine own_via (T' := s₁) (g' := (mkF m 53 #[.val (.int p1)] [])) (fun t k => XS.icmpYes X0.here hx rfl (pc0 := 46) (pc' := 53) rfl (hb hby d_method_3_code_46) rfl (feq hc6).2 (by decide) (by decide) k) ?_
              refine own_via (T' := s₁) (g' := (mkF m 54 #[.val (.int p1)] [(.int p1)])) (fun t k => XS.iloadN X0.here hx rfl (hb hby d_method_3_code_53) rfl k) ?_
              refine own_via (T' := s₁) (g' := (mkF m 56 #[.val (.int p1)] [(.int (6 : Int32)), (.int p1)])) (fun t k => XS.bipush X0.here hx rfl (hb hby d_method_3_code_54) k) ?_
              by_cases hc7 : p1 = (6 : Int32)
              · refine own_via (T' := s₁) (g' := (mkF m 59 #[.val (.int p1)] [])) (fun t k => XS.icmpNo X0.here hx rfl (hb hby d_method_3_code_56) rfl (teq hc7).2 k) ?_
                refine own_via (T' := s₁) (g' := (mkF m 62 #[.val (.int p1)] [(.int (32000 : Int32))])) (fun t k => XS.sipush X0.here hx rfl (hb hby d_method_3_code_59) k) ?_
                exact own_ret (t := .int) X0 hx Bd.returns hlk rfl (Or.inl ⟨rfl, by simp, _, rfl⟩) (hb hby d_method_3_code_62) (by decide) (by decide) ⟨by simp [own_rate, hc1, hc2, hc3, hc4, hc5, hc6, hc7], rfl, e0⟩
              · refine own_via (T' := s₁) (g' := (mkF m 63 #[.val (.int p1)] [])) (fun t k => XS.icmpYes X0.here hx rfl (pc0 := 56) (pc' := 63) rfl (hb hby d_method_3_code_56) rfl (feq hc7).2 (by decide) (by decide) k) ?_
                refine own_via (T' := s₁) (g' := (mkF m 64 #[.val (.int p1)] [(.int p1)])) (fun t k => XS.iloadN X0.here hx rfl (hb hby d_method_3_code_63) rfl k) ?_
                refine own_via (T' := s₁) (g' := (mkF m 66 #[.val (.int p1)] [(.int (7 : Int32)), (.int p1)])) (fun t k => XS.bipush X0.here hx rfl (hb hby d_method_3_code_64) k) ?_
                by_cases hc8 : p1 = (7 : Int32)
                · refine own_via (T' := s₁) (g' := (mkF m 69 #[.val (.int p1)] [])) (fun t k => XS.icmpNo X0.here hx rfl (hb hby d_method_3_code_66) rfl (teq hc8).2 k) ?_
                  refine own_via (T' := s₁) (g' := (mkF m 71 #[.val (.int p1)] [(.int (44100 : Int32))])) (fun t k => Stand.ldcI (g := (mkF m 69 #[.val (.int p1)] [])) X0 hx hown (mvT hZ (hw _ (List.mem_of_getElem? (i := 36) rfl))) rfl (hb hby d_method_3_code_69) k) ?_
                  exact own_ret (t := .int) X0 hx Bd.returns hlk rfl (Or.inl ⟨rfl, by simp, _, rfl⟩) (hb hby d_method_3_code_71) (by decide) (by decide) ⟨by simp [own_rate, hc1, hc2, hc3, hc4, hc5, hc6, hc7, hc8], rfl, e0⟩
                · refine own_via (T' := s₁) (g' := (mkF m 72 #[.val (.int p1)] [])) (fun t k => XS.icmpYes X0.here hx rfl (pc0 := 66) (pc' := 72) rfl (hb hby d_method_3_code_66) rfl (feq hc8).2 (by decide) (by decide) k) ?_
                  refine own_via (T' := s₁) (g' := (mkF m 73 #[.val (.int p1)] [(.int p1)])) (fun t k => XS.iloadN X0.here hx rfl (hb hby d_method_3_code_72) rfl k) ?_
                  refine own_via (T' := s₁) (g' := (mkF m 75 #[.val (.int p1)] [(.int (8 : Int32)), (.int p1)])) (fun t k => XS.bipush X0.here hx rfl (hb hby d_method_3_code_73) k) ?_
                  by_cases hc9 : p1 = (8 : Int32)
                  · refine own_via (T' := s₁) (g' := (mkF m 78 #[.val (.int p1)] [])) (fun t k => XS.icmpNo X0.here hx rfl (hb hby d_method_3_code_75) rfl (teq hc9).2 k) ?_
                    refine own_via (T' := s₁) (g' := (mkF m 80 #[.val (.int p1)] [(.int (48000 : Int32))])) (fun t k => Stand.ldcI (g := (mkF m 78 #[.val (.int p1)] [])) X0 hx hown (mvT hZ (hw _ (List.mem_of_getElem? (i := 37) rfl))) rfl (hb hby d_method_3_code_78) k) ?_
                    exact own_ret (t := .int) X0 hx Bd.returns hlk rfl (Or.inl ⟨rfl, by simp, _, rfl⟩) (hb hby d_method_3_code_80) (by decide) (by decide) ⟨by simp [own_rate, hc1, hc2, hc3, hc4, hc5, hc6, hc7, hc8, hc9], rfl, e0⟩
                  · refine own_via (T' := s₁) (g' := (mkF m 81 #[.val (.int p1)] [])) (fun t k => XS.icmpYes X0.here hx rfl (pc0 := 75) (pc' := 81) rfl (hb hby d_method_3_code_75) rfl (feq hc9).2 (by decide) (by decide) k) ?_
                    refine own_via (T' := s₁) (g' := (mkF m 82 #[.val (.int p1)] [(.int p1)])) (fun t k => XS.iloadN X0.here hx rfl (hb hby d_method_3_code_81) rfl k) ?_
                    refine own_via (T' := s₁) (g' := (mkF m 84 #[.val (.int p1)] [(.int (9 : Int32)), (.int p1)])) (fun t k => XS.bipush X0.here hx rfl (hb hby d_method_3_code_82) k) ?_
                    by_cases hc10 : p1 = (9 : Int32)
                    · refine own_via (T' := s₁) (g' := (mkF m 87 #[.val (.int p1)] [])) (fun t k => XS.icmpNo X0.here hx rfl (hb hby d_method_3_code_84) rfl (teq hc10).2 k) ?_
                      refine own_via (T' := s₁) (g' := (mkF m 89 #[.val (.int p1)] [(.int (64000 : Int32))])) (fun t k => Stand.ldcI (g := (mkF m 87 #[.val (.int p1)] [])) X0 hx hown (mvT hZ (hw _ (List.mem_of_getElem? (i := 38) rfl))) rfl (hb hby d_method_3_code_87) k) ?_
                      exact own_ret (t := .int) X0 hx Bd.returns hlk rfl (Or.inl ⟨rfl, by simp, _, rfl⟩) (hb hby d_method_3_code_89) (by decide) (by decide) ⟨by simp [own_rate, hc1, hc2, hc3, hc4, hc5, hc6, hc7, hc8, hc9, hc10], rfl, e0⟩
                    · refine own_via (T' := s₁) (g' := (mkF m 90 #[.val (.int p1)] [])) (fun t k => XS.icmpYes X0.here hx rfl (pc0 := 84) (pc' := 90) rfl (hb hby d_method_3_code_84) rfl (feq hc10).2 (by decide) (by decide) k) ?_
                      refine own_via (T' := s₁) (g' := (mkF m 91 #[.val (.int p1)] [(.int p1)])) (fun t k => XS.iloadN X0.here hx rfl (hb hby d_method_3_code_90) rfl k) ?_
                      refine own_via (T' := s₁) (g' := (mkF m 93 #[.val (.int p1)] [(.int (10 : Int32)), (.int p1)])) (fun t k => XS.bipush X0.here hx rfl (hb hby d_method_3_code_91) k) ?_
                      by_cases hc11 : p1 = (10 : Int32)
                      · refine own_via (T' := s₁) (g' := (mkF m 96 #[.val (.int p1)] [])) (fun t k => XS.icmpNo X0.here hx rfl (hb hby d_method_3_code_93) rfl (teq hc11).2 k) ?_
                        refine own_via (T' := s₁) (g' := (mkF m 98 #[.val (.int p1)] [(.int (88200 : Int32))])) (fun t k => Stand.ldcI (g := (mkF m 96 #[.val (.int p1)] [])) X0 hx hown (mvT hZ (hw _ (List.mem_of_getElem? (i := 39) rfl))) rfl (hb hby d_method_3_code_96) k) ?_
                        exact own_ret (t := .int) X0 hx Bd.returns hlk rfl (Or.inl ⟨rfl, by simp, _, rfl⟩) (hb hby d_method_3_code_98) (by decide) (by decide) ⟨by simp [own_rate, hc1, hc2, hc3, hc4, hc5, hc6, hc7, hc8, hc9, hc10, hc11], rfl, e0⟩
                      · refine own_via (T' := s₁) (g' := (mkF m 99 #[.val (.int p1)] [])) (fun t k => XS.icmpYes X0.here hx rfl (pc0 := 93) (pc' := 99) rfl (hb hby d_method_3_code_93) rfl (feq hc11).2 (by decide) (by decide) k) ?_
                        refine own_via (T' := s₁) (g' := (mkF m 101 #[.val (.int p1)] [(.int (96000 : Int32))])) (fun t k => Stand.ldcI (g := (mkF m 99 #[.val (.int p1)] [])) X0 hx hown (mvT hZ (hw _ (List.mem_of_getElem? (i := 35) rfl))) rfl (hb hby d_method_3_code_99) k) ?_
                        exact own_ret (t := .int) X0 hx Bd.returns hlk rfl (Or.inl ⟨rfl, by simp, _, rfl⟩) (hb hby d_method_3_code_101) (by decide) (by decide) ⟨by simp [own_rate, hc1, hc2, hc3, hc4, hc5, hc6, hc7, hc8, hc9, hc10, hc11], rfl, e0⟩
theorem own_ex0 (s : Int32) (h2 : ¬ (8000 : Int32) < s) : own_ex s = (8000 : Int32) := by
  unfold own_ex
  rw [if_neg h2]
theorem own_ex1 (s : Int32) (h1 : (8000 : Int32) < s) (h2 : ¬ (11025 : Int32) < s) : own_ex s = (11025 : Int32) := by
  unfold own_ex
  rw [if_pos h1, if_neg h2]
theorem own_ex2 (s : Int32) (h1 : (11025 : Int32) < s) (h2 : ¬ (12000 : Int32) < s) : own_ex s = (12000 : Int32) := by
  have g0 : (8000 : Int32) < s := Int32.lt_trans (by decide) h1
  unfold own_ex
  rw [if_pos g0, if_pos h1, if_neg h2]
theorem own_ex3 (s : Int32) (h1 : (12000 : Int32) < s) (h2 : ¬ (16000 : Int32) < s) : own_ex s = (16000 : Int32) := by
  have g0 : (8000 : Int32) < s := Int32.lt_trans (by decide) h1
  have g1 : (11025 : Int32) < s := Int32.lt_trans (by decide) h1
  unfold own_ex
  rw [if_pos g0, if_pos g1, if_pos h1, if_neg h2]
theorem own_ex4 (s : Int32) (h1 : (16000 : Int32) < s) (h2 : ¬ (22050 : Int32) < s) : own_ex s = (22050 : Int32) := by
  have g0 : (8000 : Int32) < s := Int32.lt_trans (by decide) h1
  have g1 : (11025 : Int32) < s := Int32.lt_trans (by decide) h1
  have g2 : (12000 : Int32) < s := Int32.lt_trans (by decide) h1
  unfold own_ex
  rw [if_pos g0, if_pos g1, if_pos g2, if_pos h1, if_neg h2]
theorem own_ex5 (s : Int32) (h1 : (22050 : Int32) < s) (h2 : ¬ (24000 : Int32) < s) : own_ex s = (24000 : Int32) := by
  have g0 : (8000 : Int32) < s := Int32.lt_trans (by decide) h1
  have g1 : (11025 : Int32) < s := Int32.lt_trans (by decide) h1
  have g2 : (12000 : Int32) < s := Int32.lt_trans (by decide) h1
  have g3 : (16000 : Int32) < s := Int32.lt_trans (by decide) h1
  unfold own_ex
  rw [if_pos g0, if_pos g1, if_pos g2, if_pos g3, if_pos h1, if_neg h2]
theorem own_ex6 (s : Int32) (h1 : (24000 : Int32) < s) (h2 : ¬ (32000 : Int32) < s) : own_ex s = (32000 : Int32) := by
  have g0 : (8000 : Int32) < s := Int32.lt_trans (by decide) h1
  have g1 : (11025 : Int32) < s := Int32.lt_trans (by decide) h1
  have g2 : (12000 : Int32) < s := Int32.lt_trans (by decide) h1
  have g3 : (16000 : Int32) < s := Int32.lt_trans (by decide) h1
  have g4 : (22050 : Int32) < s := Int32.lt_trans (by decide) h1
  unfold own_ex
  rw [if_pos g0, if_pos g1, if_pos g2, if_pos g3, if_pos g4, if_pos h1, if_neg h2]
theorem own_ex7 (s : Int32) (h1 : (32000 : Int32) < s) (h2 : ¬ (44100 : Int32) < s) : own_ex s = (44100 : Int32) := by
  have g0 : (8000 : Int32) < s := Int32.lt_trans (by decide) h1
  have g1 : (11025 : Int32) < s := Int32.lt_trans (by decide) h1
  have g2 : (12000 : Int32) < s := Int32.lt_trans (by decide) h1
  have g3 : (16000 : Int32) < s := Int32.lt_trans (by decide) h1
  have g4 : (22050 : Int32) < s := Int32.lt_trans (by decide) h1
  have g5 : (24000 : Int32) < s := Int32.lt_trans (by decide) h1
  unfold own_ex
  rw [if_pos g0, if_pos g1, if_pos g2, if_pos g3, if_pos g4, if_pos g5, if_pos h1, if_neg h2]
theorem own_ex8 (s : Int32) (h1 : (44100 : Int32) < s) (h2 : ¬ (48000 : Int32) < s) : own_ex s = (48000 : Int32) := by
  have g0 : (8000 : Int32) < s := Int32.lt_trans (by decide) h1
  have g1 : (11025 : Int32) < s := Int32.lt_trans (by decide) h1
  have g2 : (12000 : Int32) < s := Int32.lt_trans (by decide) h1
  have g3 : (16000 : Int32) < s := Int32.lt_trans (by decide) h1
  have g4 : (22050 : Int32) < s := Int32.lt_trans (by decide) h1
  have g5 : (24000 : Int32) < s := Int32.lt_trans (by decide) h1
  have g6 : (32000 : Int32) < s := Int32.lt_trans (by decide) h1
  unfold own_ex
  rw [if_pos g0, if_pos g1, if_pos g2, if_pos g3, if_pos g4, if_pos g5, if_pos g6, if_pos h1, if_neg h2]
theorem own_ex9 (s : Int32) (h1 : (48000 : Int32) < s) (h2 : ¬ (64000 : Int32) < s) : own_ex s = (64000 : Int32) := by
  have g0 : (8000 : Int32) < s := Int32.lt_trans (by decide) h1
  have g1 : (11025 : Int32) < s := Int32.lt_trans (by decide) h1
  have g2 : (12000 : Int32) < s := Int32.lt_trans (by decide) h1
  have g3 : (16000 : Int32) < s := Int32.lt_trans (by decide) h1
  have g4 : (22050 : Int32) < s := Int32.lt_trans (by decide) h1
  have g5 : (24000 : Int32) < s := Int32.lt_trans (by decide) h1
  have g6 : (32000 : Int32) < s := Int32.lt_trans (by decide) h1
  have g7 : (44100 : Int32) < s := Int32.lt_trans (by decide) h1
  unfold own_ex
  rw [if_pos g0, if_pos g1, if_pos g2, if_pos g3, if_pos g4, if_pos g5, if_pos g6, if_pos g7, if_pos h1, if_neg h2]
theorem own_ex10 (s : Int32) (h1 : (64000 : Int32) < s) (h2 : ¬ (88200 : Int32) < s) : own_ex s = (88200 : Int32) := by
  have g0 : (8000 : Int32) < s := Int32.lt_trans (by decide) h1
  have g1 : (11025 : Int32) < s := Int32.lt_trans (by decide) h1
  have g2 : (12000 : Int32) < s := Int32.lt_trans (by decide) h1
  have g3 : (16000 : Int32) < s := Int32.lt_trans (by decide) h1
  have g4 : (22050 : Int32) < s := Int32.lt_trans (by decide) h1
  have g5 : (24000 : Int32) < s := Int32.lt_trans (by decide) h1
  have g6 : (32000 : Int32) < s := Int32.lt_trans (by decide) h1
  have g7 : (44100 : Int32) < s := Int32.lt_trans (by decide) h1
  have g8 : (48000 : Int32) < s := Int32.lt_trans (by decide) h1
  unfold own_ex
  rw [if_pos g0, if_pos g1, if_pos g2, if_pos g3, if_pos g4, if_pos g5, if_pos g6, if_pos g7, if_pos g8, if_pos h1, if_neg h2]
theorem own_ex11 (s : Int32) (h1 : (88200 : Int32) < s) : own_ex s = (96000 : Int32) := by
  have g0 : (8000 : Int32) < s := Int32.lt_trans (by decide) h1
  have g1 : (11025 : Int32) < s := Int32.lt_trans (by decide) h1
  have g2 : (12000 : Int32) < s := Int32.lt_trans (by decide) h1
  have g3 : (16000 : Int32) < s := Int32.lt_trans (by decide) h1
  have g4 : (22050 : Int32) < s := Int32.lt_trans (by decide) h1
  have g5 : (24000 : Int32) < s := Int32.lt_trans (by decide) h1
  have g6 : (32000 : Int32) < s := Int32.lt_trans (by decide) h1
  have g7 : (44100 : Int32) < s := Int32.lt_trans (by decide) h1
  have g8 : (48000 : Int32) < s := Int32.lt_trans (by decide) h1
  have g9 : (64000 : Int32) < s := Int32.lt_trans (by decide) h1
  unfold own_ex
  rw [if_pos g0, if_pos g1, if_pos g2, if_pos g3, if_pos g4, if_pos g5, if_pos g6, if_pos g7, if_pos g8, if_pos g9, if_pos h1]
theorem d_prog_29_method_4_code_0 : decode prog_29_method_4_code 0 = .ok (.getstatic 112, 3) := by decide +kernel
theorem d_prog_29_method_4_code_3 : decode prog_29_method_4_code 3 = .ok (.getstatic 112, 3) := by decide +kernel
theorem d_prog_29_method_4_code_6 : decode prog_29_method_4_code 6 = .ok (.arraylength, 1) := by decide +kernel
theorem d_prog_29_method_4_code_7 : decode prog_29_method_4_code 7 = .ok (.iconst 1, 1) := by decide +kernel
theorem d_prog_29_method_4_code_8 : decode prog_29_method_4_code 8 = .ok (.isub, 1) := by decide +kernel
theorem d_prog_29_method_4_code_9 : decode prog_29_method_4_code 9 = .ok (.iaload, 1) := by decide +kernel
theorem d_prog_29_method_4_code_10 : decode prog_29_method_4_code 10 = .ok (.istore_n 1, 1) := by decide +kernel
theorem d_prog_29_method_4_code_11 : decode prog_29_method_4_code 11 = .ok (.getstatic 112, 3) := by decide +kernel
theorem d_prog_29_method_4_code_14 : decode prog_29_method_4_code 14 = .ok (.arraylength, 1) := by decide +kernel
theorem d_prog_29_method_4_code_15 : decode prog_29_method_4_code 15 = .ok (.iconst 1, 1) := by decide +kernel
theorem d_prog_29_method_4_code_16 : decode prog_29_method_4_code 16 = .ok (.isub, 1) := by decide +kernel
theorem d_prog_29_method_4_code_17 : decode prog_29_method_4_code 17 = .ok (.istore_n 2, 1) := by decide +kernel
theorem d_prog_29_method_4_code_18 : decode prog_29_method_4_code 18 = .ok (.iload_n 2, 1) := by decide +kernel
theorem d_prog_29_method_4_code_19 : decode prog_29_method_4_code 19 = .ok (.ifCond .lt 27, 3) := by decide +kernel
theorem d_prog_29_method_4_code_22 : decode prog_29_method_4_code 22 = .ok (.getstatic 112, 3) := by decide +kernel
theorem d_prog_29_method_4_code_25 : decode prog_29_method_4_code 25 = .ok (.iload_n 2, 1) := by decide +kernel
theorem d_prog_29_method_4_code_26 : decode prog_29_method_4_code 26 = .ok (.iaload, 1) := by decide +kernel
theorem d_prog_29_method_4_code_27 : decode prog_29_method_4_code 27 = .ok (.aload_n 0, 1) := by decide +kernel
theorem d_prog_29_method_4_code_28 : decode prog_29_method_4_code 28 = .ok (.getfield 13, 3) := by decide +kernel
theorem d_prog_29_method_4_code_31 : decode prog_29_method_4_code 31 = .ok (.if_icmp .lt 15, 3) := by decide +kernel
theorem d_prog_29_method_4_code_34 : decode prog_29_method_4_code 34 = .ok (.getstatic 112, 3) := by decide +kernel
theorem d_prog_29_method_4_code_37 : decode prog_29_method_4_code 37 = .ok (.iload_n 2, 1) := by decide +kernel
theorem d_prog_29_method_4_code_38 : decode prog_29_method_4_code 38 = .ok (.iaload, 1) := by decide +kernel
theorem d_prog_29_method_4_code_39 : decode prog_29_method_4_code 39 = .ok (.istore_n 1, 1) := by decide +kernel
theorem d_prog_29_method_4_code_40 : decode prog_29_method_4_code 40 = .ok (.iinc 2 (-1), 3) := by decide +kernel
theorem d_prog_29_method_4_code_43 : decode prog_29_method_4_code 43 = .ok (.goto (-25), 3) := by decide +kernel
theorem d_prog_29_method_4_code_46 : decode prog_29_method_4_code 46 = .ok (.iload_n 1, 1) := by decide +kernel
theorem d_prog_29_method_4_code_47 : decode prog_29_method_4_code 47 = .ok (.ireturn, 1) := by decide +kernel
set_option maxRecDepth 65536 in
set_option maxHeartbeats 40000000 in
theorem own_rr (l : Launch) (Z : State) (a0 : Array Value) (hw : ∀ d ∈ tables_1, d.before a0 Z = true) (b ra : Addr) (q : Int32) (cl : Cell) (h0 : Heap) (F : Fld Z h0 b "com/example/lazytail/lazytail/media/SourceAudio" "sampleRate" "I" (.int q)) (SR : Sta Z h0 "com/example/lazytail/lazytail/media/SourceAudio" "AAC_RATES" "[I" (.ref ra)) (Ar : Arr Z h0 ra cl .int) (SZ : cl.slots.size = (12 : Int32).toNatClampNeg) (el0 : cl.slots[((0 : Int32)).toNatClampNeg]? = some (.int (8000 : Int32))) (el1 : cl.slots[((1 : Int32)).toNatClampNeg]? = some (.int (11025 : Int32))) (el2 : cl.slots[((2 : Int32)).toNatClampNeg]? = some (.int (12000 : Int32))) (el3 : cl.slots[((3 : Int32)).toNatClampNeg]? = some (.int (16000 : Int32))) (el4 : cl.slots[((4 : Int32)).toNatClampNeg]? = some (.int (22050 : Int32))) (el5 : cl.slots[((5 : Int32)).toNatClampNeg]? = some (.int (24000 : Int32))) (el6 : cl.slots[((6 : Int32)).toNatClampNeg]? = some (.int (32000 : Int32))) (el7 : cl.slots[((7 : Int32)).toNatClampNeg]? = some (.int (44100 : Int32))) (el8 : cl.slots[((8 : Int32)).toNatClampNeg]? = some (.int (48000 : Int32))) (el9 : cl.slots[((9 : Int32)).toNatClampNeg]? = some (.int (64000 : Int32))) (el10 : cl.slots[((10 : Int32)).toNatClampNeg]? = some (.int (88200 : Int32))) (el11 : cl.slots[((11 : Int32)).toNatClampNeg]? = some (.int (96000 : Int32))) :
    own_Met l Z (⟨"com/example/lazytail/lazytail/media/SourceAudio", "renditionRate", "()I"⟩ : MethodName) [Jvm.Cond.code (⟨"com/example/lazytail/lazytail/media/SourceAudio", "renditionRate", "()I"⟩ : MethodName) prog_29_method_4_code 3 (some .int)] ({ frames := 0, cells := 0, slots := 0, locals := 0 } : Room) #[(.ref b)] h0 (own_Q (some (.int (own_ex q))) h0) := by
  refine MetFree.of_bodySF (plainFor_of_name pn_1) hisR ?_
  intro p e s m args below meth c s₁ Bd hml0 hP hK
  obtain ⟨rfl, hZ, hh⟩ := hP
  have hx := Bd.exec
  have hby := Bd.bytes
  have hml : c.maxLocals = 3 := hml0
  have hown : s.vm.findClass "com/example/lazytail/lazytail/media/SourceAudio" = some m.cls := findClass_of_methodNamed Bd.named
  have hnm := (name_of_methodNamed Bd.named Bd.method).1
  have hlk : meth.locks = false := BodyLoose.notSynchronized Bd
  have X0 : Stand p l e ({ frames := 0, cells := 0, slots := 0, locals := 0 } : Room) s m #[(.ref b)] below meth c s₁ [] 0 0 := Stand.of_body Bd
  have e0 : s₁.heap = h0 := by rw [← hh, Bd.state]; rfl
  show own_Go p e below (own_End s (own_Q (some (.int (own_ex q))) h0) 0 0) s₁ (entryFrame m #[(.ref b)] 3)
  refine own_start (g' := mkF m 0 #[.val (.ref b), .unset, .unset] []) (by first | rfl | (simp [entryFrame, mkF, argsToLocals, Value.category, maxLocals]; done)) ?_
  obtain ⟨T1, X1, e1, st1⟩ := getS2 X0 hx hZ hown (host := "") (Or.inl (hw _ (List.mem_of_getElem? (i := 25) rfl))) Via.refl e0 SR (g := (mkF m 0 #[.val (.ref b), .unset, .unset] [])) rfl (hb hby d_prog_29_method_4_code_0)
  refine own_via (T' := T1) (g' := (mkF m 3 #[.val (.ref b), .unset, .unset] [(.ref ra)])) st1 ?_
  obtain ⟨T2, X2, e2, st2⟩ := getS2 X1 hx hZ hown (host := "") (Or.inl (hw _ (List.mem_of_getElem? (i := 25) rfl))) Via.refl e1 SR (g := (mkF m 3 #[.val (.ref b), .unset, .unset] [(.ref ra)])) rfl (hb hby d_prog_29_method_4_code_3)
  refine own_via (T' := T2) (g' := (mkF m 6 #[.val (.ref b), .unset, .unset] [(.ref ra), (.ref ra)])) st2 ?_
  refine own_via (T' := T2) (g' := (mkF m 7 #[.val (.ref b), .unset, .unset] [(.int cl.slots.size.toInt32), (.ref ra)])) (fun t k => X2.arraylength hx (by rw [e2]; exact Ar.1) (State.isArrayOf_alike hZ.alike Ar.2.1) (g := (mkF m 6 #[.val (.ref b), .unset, .unset] [(.ref ra), (.ref ra)])) rfl rfl (hb hby d_prog_29_method_4_code_6) t k) ?_
  rw [len_of SZ (by decide)]
  refine own_via (T' := T2) (g' := (mkF m 8 #[.val (.ref b), .unset, .unset] [(.int (1 : Int32)), (.int (12 : Int32)), (.ref ra)])) (fun t k => XS.iconst X2.here hx rfl (hb hby d_prog_29_method_4_code_7) k) ?_
  refine own_via (T' := T2) (g' := (mkF m 9 #[.val (.ref b), .unset, .unset] [(.int ((12 : Int32) - (1 : Int32))), (.ref ra)])) (fun t k => XS.isub X2.here hx rfl (hb hby d_prog_29_method_4_code_8) rfl k) ?_
  rw [show ((12 : Int32) - (1 : Int32)) = (11 : Int32) from by decide]
  refine own_via (T' := T2) (g' := (mkF m 10 #[.val (.ref b), .unset, .unset] [(.int (96000 : Int32))])) (fun t k => X2.iaload hx (j := (11 : Int32)) (v := .int (96000 : Int32)) (by rw [e2]; exact Ar.1) (State.isArrayOf_alike hZ.alike Ar.2.1) Ar.2.2 (inb_of SZ ⟨by decide, by decide⟩) el11 (g := (mkF m 9 #[.val (.ref b), .unset, .unset] [(.int (11 : Int32)), (.ref ra)])) rfl rfl (hb hby d_prog_29_method_4_code_9) t k) ?_
  refine own_via (T' := T2) (g' := (mkF m 11 #[.val (.ref b), .val (.int (96000 : Int32)), .unset] [])) (fun t k => XS.istoreN X2.here hx rfl (hb hby d_prog_29_method_4_code_10) rfl (l' := #[.val (.ref b), .val (.int (96000 : Int32)), .unset]) rfl k) ?_
  obtain ⟨T3, X3, e3, st3⟩ := getS2 X2 hx hZ hown (host := "") (Or.inl (hw _ (List.mem_of_getElem? (i := 25) rfl))) Via.refl e2 SR (g := (mkF m 11 #[.val (.ref b), .val (.int (96000 : Int32)), .unset] [])) rfl (hb hby d_prog_29_method_4_code_11)
  refine own_via (T' := T3) (g' := (mkF m 14 #[.val (.ref b), .val (.int (96000 : Int32)), .unset] [(.ref ra)])) st3 ?_
  refine own_via (T' := T3) (g' := (mkF m 15 #[.val (.ref b), .val (.int (96000 : Int32)), .unset] [(.int cl.slots.size.toInt32)])) (fun t k => X3.arraylength hx (by rw [e3]; exact Ar.1) (State.isArrayOf_alike hZ.alike Ar.2.1) (g := (mkF m 14 #[.val (.ref b), .val (.int (96000 : Int32)), .unset] [(.ref ra)])) rfl rfl (hb hby d_prog_29_method_4_code_14) t k) ?_
  rw [len_of SZ (by decide)]
  refine own_via (T' := T3) (g' := (mkF m 16 #[.val (.ref b), .val (.int (96000 : Int32)), .unset] [(.int (1 : Int32)), (.int (12 : Int32))])) (fun t k => XS.iconst X3.here hx rfl (hb hby d_prog_29_method_4_code_15) k) ?_
  refine own_via (T' := T3) (g' := (mkF m 17 #[.val (.ref b), .val (.int (96000 : Int32)), .unset] [(.int ((12 : Int32) - (1 : Int32)))])) (fun t k => XS.isub X3.here hx rfl (hb hby d_prog_29_method_4_code_16) rfl k) ?_
  rw [show ((12 : Int32) - (1 : Int32)) = (11 : Int32) from by decide]
  refine own_via (T' := T3) (g' := (mkF m 18 #[.val (.ref b), .val (.int (96000 : Int32)), .val (.int (11 : Int32))] [])) (fun t k => XS.istoreN X3.here hx rfl (hb hby d_prog_29_method_4_code_17) rfl (l' := #[.val (.ref b), .val (.int (96000 : Int32)), .val (.int (11 : Int32))]) rfl k) ?_
  refine own_via (T' := T3) (g' := (mkF m 19 #[.val (.ref b), .val (.int (96000 : Int32)), .val (.int (11 : Int32))] [(.int (11 : Int32))])) (fun t k => XS.iloadN X3.here hx rfl (hb hby d_prog_29_method_4_code_18) rfl k) ?_
  refine own_via (T' := T3) (g' := (mkF m 22 #[.val (.ref b), .val (.int (96000 : Int32)), .val (.int (11 : Int32))] [])) (fun t k => XS.ifNo X3.here hx rfl (hb hby d_prog_29_method_4_code_19) rfl ((if0 _ _).trans (flt (by decide)).1) k) ?_
  obtain ⟨T4, X4, e4, st4⟩ := getS2 X3 hx hZ hown (host := "") (Or.inl (hw _ (List.mem_of_getElem? (i := 25) rfl))) Via.refl e3 SR (g := (mkF m 22 #[.val (.ref b), .val (.int (96000 : Int32)), .val (.int (11 : Int32))] [])) rfl (hb hby d_prog_29_method_4_code_22)
  refine own_via (T' := T4) (g' := (mkF m 25 #[.val (.ref b), .val (.int (96000 : Int32)), .val (.int (11 : Int32))] [(.ref ra)])) st4 ?_
  refine own_via (T' := T4) (g' := (mkF m 26 #[.val (.ref b), .val (.int (96000 : Int32)), .val (.int (11 : Int32))] [(.int (11 : Int32)), (.ref ra)])) (fun t k => XS.iloadN X4.here hx rfl (hb hby d_prog_29_method_4_code_25) rfl k) ?_
  refine own_via (T' := T4) (g' := (mkF m 27 #[.val (.ref b), .val (.int (96000 : Int32)), .val (.int (11 : Int32))] [(.int (96000 : Int32))])) (fun t k => X4.iaload hx (j := (11 : Int32)) (v := .int (96000 : Int32)) (by rw [e4]; exact Ar.1) (State.isArrayOf_alike hZ.alike Ar.2.1) Ar.2.2 (inb_of SZ ⟨by decide, by decide⟩) el11 (g := (mkF m 26 #[.val (.ref b), .val (.int (96000 : Int32)), .val (.int (11 : Int32))] [(.int (11 : Int32)), (.ref ra)])) rfl rfl (hb hby d_prog_29_method_4_code_26) t k) ?_
  refine own_via (T' := T4) (g' := (mkF m 28 #[.val (.ref b), .val (.int (96000 : Int32)), .val (.int (11 : Int32))] [(.ref b), (.int (96000 : Int32))])) (fun t k => XS.aloadN X4.here hx rfl (hb hby d_prog_29_method_4_code_27) rfl rfl k) ?_
  obtain ⟨T5, X5, e5, st5⟩ := getF X4 hx hZ hown (host := "") (Or.inl (hw _ (List.mem_of_getElem? (i := 16) rfl))) Via.refl e4 F (g := (mkF m 28 #[.val (.ref b), .val (.int (96000 : Int32)), .val (.int (11 : Int32))] [(.ref b), (.int (96000 : Int32))])) rfl rfl (hb hby d_prog_29_method_4_code_28)
  refine own_via (T' := T5) (g' := (mkF m 31 #[.val (.ref b), .val (.int (96000 : Int32)), .val (.int (11 : Int32))] [(.int q), (.int (96000 : Int32))])) st5 ?_
  by_cases hc6 : (96000 : Int32) < q
  · refine own_via (T' := T5) (g' := (mkF m 46 #[.val (.ref b), .val (.int (96000 : Int32)), .val (.int (11 : Int32))] [])) (fun t k => XS.icmpYes X5.here hx rfl (pc0 := 31) (pc' := 46) rfl (hb hby d_prog_29_method_4_code_31) rfl (tlt hc6).1 (by decide) (by decide) k) ?_
    refine own_via (T' := T5) (g' := (mkF m 47 #[.val (.ref b), .val (.int (96000 : Int32)), .val (.int (11 : Int32))] [(.int (96000 : Int32))])) (fun t k => XS.iloadN X5.here hx rfl (hb hby d_prog_29_method_4_code_46) rfl k) ?_
    exact own_ret (t := .int) X5 hx Bd.returns hlk rfl (Or.inl ⟨rfl, by simp, _, rfl⟩) (hb hby d_prog_29_method_4_code_47) (by decide) (by decide) ⟨congrArg (fun z => some (Value.int z)) (own_ex11 q (Int32.lt_trans (by decide) hc6)).symm, rfl, e5⟩
  · refine own_via (T' := T5) (g' := (mkF m 34 #[.val (.ref b), .val (.int (96000 : Int32)), .val (.int (11 : Int32))] [])) (fun t k => XS.icmpNo X5.here hx rfl (hb hby d_prog_29_method_4_code_31) rfl (flt hc6).1 k) ?_
    obtain ⟨T7, X7, e7, st7⟩ := getS2 X5 hx hZ hown (host := "") (Or.inl (hw _ (List.mem_of_getElem? (i := 25) rfl))) Via.refl e5 SR (g := (mkF m 34 #[.val (.ref b), .val (.int (96000 : Int32)), .val (.int (11 : Int32))] [])) rfl (hb hby d_prog_29_method_4_code_34)
    refine own_via (T' := T7) (g' := (mkF m 37 #[.val (.ref b), .val (.int (96000 : Int32)), .val (.int (11 : Int32))] [(.ref ra)])) st7 ?_
    refine own_via (T' := T7) (g' := (mkF m 38 #[.val (.ref b), .val (.int (96000 : Int32)), .val (.int (11 : Int32))] [(.int (11 : Int32)), (.ref ra)])) (fun t k => XS.iloadN X7.here hx rfl (hb hby d_prog_29_method_4_code_37) rfl k) ?_
    refine own_via (T' := T7) (g' := (mkF m 39 #[.val (.ref b), .val (.int (96000 : Int32)), .val (.int (11 : Int32))] [(.int (96000 : Int32))])) (fun t k => X7.iaload hx (j := (11 : Int32)) (v := .int (96000 : Int32)) (by rw [e7]; exact Ar.1) (State.isArrayOf_alike hZ.alike Ar.2.1) Ar.2.2 (inb_of SZ ⟨by decide, by decide⟩) el11 (g := (mkF m 38 #[.val (.ref b), .val (.int (96000 : Int32)), .val (.int (11 : Int32))] [(.int (11 : Int32)), (.ref ra)])) rfl rfl (hb hby d_prog_29_method_4_code_38) t k) ?_
    refine own_via (T' := T7) (g' := (mkF m 40 #[.val (.ref b), .val (.int (96000 : Int32)), .val (.int (11 : Int32))] [])) (fun t k => XS.istoreN X7.here hx rfl (hb hby d_prog_29_method_4_code_39) rfl (l' := #[.val (.ref b), .val (.int (96000 : Int32)), .val (.int (11 : Int32))]) rfl k) ?_
    refine own_via (T' := T7) (g' := (mkF m 43 #[.val (.ref b), .val (.int (96000 : Int32)), .val (.int ((11 : Int32) + (-1 : Int32)))] [])) (fun t k => XS.iinc X7.here hx rfl (hb hby d_prog_29_method_4_code_40) rfl (l' := #[.val (.ref b), .val (.int (96000 : Int32)), .val (.int ((11 : Int32) + (-1 : Int32)))]) rfl k) ?_
    rw [show ((11 : Int32) + (-1 : Int32)) = (10 : Int32) from by decide]
    refine own_via (T' := T7) (g' := (mkF m 18 #[.val (.ref b), .val (.int (96000 : Int32)), .val (.int (10 : Int32))] [])) (fun t k => XS.goto X7.here hx rfl (pc0 := 43) (pc' := 18) rfl (hb hby d_prog_29_method_4_code_43) (by decide) (by decide) k) ?_
    refine own_via (T' := T7) (g' := (mkF m 19 #[.val (.ref b), .val (.int (96000 : Int32)), .val (.int (10 : Int32))] [(.int (10 : Int32))])) (fun t k => XS.iloadN X7.here hx rfl (hb hby d_prog_29_method_4_code_18) rfl k) ?_
    refine own_via (T' := T7) (g' := (mkF m 22 #[.val (.ref b), .val (.int (96000 : Int32)), .val (.int (10 : Int32))] [])) (fun t k => XS.ifNo X7.here hx rfl (hb hby d_prog_29_method_4_code_19) rfl ((if0 _ _).trans (flt (by decide)).1) k) ?_
    obtain ⟨T8, X8, e8, st8⟩ := getS2 X7 hx hZ hown (host := "") (Or.inl (hw _ (List.mem_of_getElem? (i := 25) rfl))) Via.refl e7 SR (g := (mkF m 22 #[.val (.ref b), .val (.int (96000 : Int32)), .val (.int (10 : Int32))] [])) rfl (hb hby d_prog_29_method_4_code_22)
    refine own_via (T' := T8) (g' := (mkF m 25 #[.val (.ref b), .val (.int (96000 : Int32)), .val (.int (10 : Int32))] [(.ref ra)])) st8 ?_
    refine own_via (T' := T8) (g' := (mkF m 26 #[.val (.ref b), .val (.int (96000 : Int32)), .val (.int (10 : Int32))] [(.int (10 : Int32)), (.ref ra)])) (fun t k => XS.iloadN X8.here hx rfl (hb hby d_prog_29_method_4_code_25) rfl k) ?_
    refine own_via (T' := T8) (g' := (mkF m 27 #[.val (.ref b), .val (.int (96000 : Int32)), .val (.int (10 : Int32))] [(.int (88200 : Int32))])) (fun t k => X8.iaload hx (j := (10 : Int32)) (v := .int (88200 : Int32)) (by rw [e8]; exact Ar.1) (State.isArrayOf_alike hZ.alike Ar.2.1) Ar.2.2 (inb_of SZ ⟨by decide, by decide⟩) el10 (g := (mkF m 26 #[.val (.ref b), .val (.int (96000 : Int32)), .val (.int (10 : Int32))] [(.int (10 : Int32)), (.ref ra)])) rfl rfl (hb hby d_prog_29_method_4_code_26) t k) ?_
    refine own_via (T' := T8) (g' := (mkF m 28 #[.val (.ref b), .val (.int (96000 : Int32)), .val (.int (10 : Int32))] [(.ref b), (.int (88200 : Int32))])) (fun t k => XS.aloadN X8.here hx rfl (hb hby d_prog_29_method_4_code_27) rfl rfl k) ?_
    obtain ⟨T9, X9, e9, st9⟩ := getF X8 hx hZ hown (host := "") (Or.inl (hw _ (List.mem_of_getElem? (i := 16) rfl))) Via.refl e8 F (g := (mkF m 28 #[.val (.ref b), .val (.int (96000 : Int32)), .val (.int (10 : Int32))] [(.ref b), (.int (88200 : Int32))])) rfl rfl (hb hby d_prog_29_method_4_code_28)
    refine own_via (T' := T9) (g' := (mkF m 31 #[.val (.ref b), .val (.int (96000 : Int32)), .val (.int (10 : Int32))] [(.int q), (.int (88200 : Int32))])) st9 ?_
    by_cases hc10 : (88200 : Int32) < q
    · refine own_via (T' := T9) (g' := (mkF m 46 #[.val (.ref b), .val (.int (96000 : Int32)), .val (.int (10 : Int32))] [])) (fun t k => XS.icmpYes X9.here hx rfl (pc0 := 31) (pc' := 46) rfl (hb hby d_prog_29_method_4_code_31) rfl (tlt hc10).1 (by decide) (by decide) k) ?_
      refine own_via (T' := T9) (g' := (mkF m 47 #[.val (.ref b), .val (.int (96000 : Int32)), .val (.int (10 : Int32))] [(.int (96000 : Int32))])) (fun t k => XS.iloadN X9.here hx rfl (hb hby d_prog_29_method_4_code_46) rfl k) ?_
      exact own_ret (t := .int) X9 hx Bd.returns hlk rfl (Or.inl ⟨rfl, by simp, _, rfl⟩) (hb hby d_prog_29_method_4_code_47) (by decide) (by decide) ⟨congrArg (fun z => some (Value.int z)) (own_ex11 q hc10).symm, rfl, e9⟩
    · refine own_via (T' := T9) (g' := (mkF m 34 #[.val (.ref b), .val (.int (96000 : Int32)), .val (.int (10 : Int32))] [])) (fun t k => XS.icmpNo X9.here hx rfl (hb hby d_prog_29_method_4_code_31) rfl (flt hc10).1 k) ?_
      obtain ⟨T11, X11, e11, st11⟩ := getS2 X9 hx hZ hown (host := "") (Or.inl (hw _ (List.mem_of_getElem? (i := 25) rfl))) Via.refl e9 SR (g := (mkF m 34 #[.val (.ref b), .val (.int (96000 : Int32)), .val (.int (10 : Int32))] [])) rfl (hb hby d_prog_29_method_4_code_34)
      refine own_via (T' := T11) (g' := (mkF m 37 #[.val (.ref b), .val (.int (96000 : Int32)), .val (.int (10 : Int32))] [(.ref ra)])) st11 ?_
      refine own_via (T' := T11) (g' := (mkF m 38 #[.val (.ref b), .val (.int (96000 : Int32)), .val (.int (10 : Int32))] [(.int (10 : Int32)), (.ref ra)])) (fun t k => XS.iloadN X11.here hx rfl (hb hby d_prog_29_method_4_code_37) rfl k) ?_
      refine own_via (T' := T11) (g' := (mkF m 39 #[.val (.ref b), .val (.int (96000 : Int32)), .val (.int (10 : Int32))] [(.int (88200 : Int32))])) (fun t k => X11.iaload hx (j := (10 : Int32)) (v := .int (88200 : Int32)) (by rw [e11]; exact Ar.1) (State.isArrayOf_alike hZ.alike Ar.2.1) Ar.2.2 (inb_of SZ ⟨by decide, by decide⟩) el10 (g := (mkF m 38 #[.val (.ref b), .val (.int (96000 : Int32)), .val (.int (10 : Int32))] [(.int (10 : Int32)), (.ref ra)])) rfl rfl (hb hby d_prog_29_method_4_code_38) t k) ?_
      refine own_via (T' := T11) (g' := (mkF m 40 #[.val (.ref b), .val (.int (88200 : Int32)), .val (.int (10 : Int32))] [])) (fun t k => XS.istoreN X11.here hx rfl (hb hby d_prog_29_method_4_code_39) rfl (l' := #[.val (.ref b), .val (.int (88200 : Int32)), .val (.int (10 : Int32))]) rfl k) ?_
      refine own_via (T' := T11) (g' := (mkF m 43 #[.val (.ref b), .val (.int (88200 : Int32)), .val (.int ((10 : Int32) + (-1 : Int32)))] [])) (fun t k => XS.iinc X11.here hx rfl (hb hby d_prog_29_method_4_code_40) rfl (l' := #[.val (.ref b), .val (.int (88200 : Int32)), .val (.int ((10 : Int32) + (-1 : Int32)))]) rfl k) ?_
      rw [show ((10 : Int32) + (-1 : Int32)) = (9 : Int32) from by decide]
      refine own_via (T' := T11) (g' := (mkF m 18 #[.val (.ref b), .val (.int (88200 : Int32)), .val (.int (9 : Int32))] [])) (fun t k => XS.goto X11.here hx rfl (pc0 := 43) (pc' := 18) rfl (hb hby d_prog_29_method_4_code_43) (by decide) (by decide) k) ?_
      refine own_via (T' := T11) (g' := (mkF m 19 #[.val (.ref b), .val (.int (88200 : Int32)), .val (.int (9 : Int32))] [(.int (9 : Int32))])) (fun t k => XS.iloadN X11.here hx rfl (hb hby d_prog_29_method_4_code_18) rfl k) ?_
      refine own_via (T' := T11) (g' := (mkF m 22 #[.val (.ref b), .val (.int (88200 : Int32)), .val (.int (9 : Int32))] [])) (fun t k => XS.ifNo X11.here hx rfl (hb hby d_prog_29_method_4_code_19) rfl ((if0 _ _).trans (flt (by decide)).1) k) ?_
      obtain ⟨T12, X12, e12, st12⟩ := getS2 X11 hx hZ hown (host := "") (Or.inl (hw _ (List.mem_of_getElem? (i := 25) rfl))) Via.refl e11 SR (g := (mkF m 22 #[.val (.ref b), .val (.int (88200 : Int32)), .val (.int (9 : Int32))] [])) rfl (hb hby d_prog_29_method_4_code_22)
      refine own_via (T' := T12) (g' := (mkF m 25 #[.val (.ref b), .val (.int (88200 : Int32)), .val (.int (9 : Int32))] [(.ref ra)])) st12 ?_
      refine own_via (T' := T12) (g' := (mkF m 26 #[.val (.ref b), .val (.int (88200 : Int32)), .val (.int (9 : Int32))] [(.int (9 : Int32)), (.ref ra)])) (fun t k => XS.iloadN X12.here hx rfl (hb hby d_prog_29_method_4_code_25) rfl k) ?_
      refine own_via (T' := T12) (g' := (mkF m 27 #[.val (.ref b), .val (.int (88200 : Int32)), .val (.int (9 : Int32))] [(.int (64000 : Int32))])) (fun t k => X12.iaload hx (j := (9 : Int32)) (v := .int (64000 : Int32)) (by rw [e12]; exact Ar.1) (State.isArrayOf_alike hZ.alike Ar.2.1) Ar.2.2 (inb_of SZ ⟨by decide, by decide⟩) el9 (g := (mkF m 26 #[.val (.ref b), .val (.int (88200 : Int32)), .val (.int (9 : Int32))] [(.int (9 : Int32)), (.ref ra)])) rfl rfl (hb hby d_prog_29_method_4_code_26) t k) ?_
      refine own_via (T' := T12) (g' := (mkF m 28 #[.val (.ref b), .val (.int (88200 : Int32)), .val (.int (9 : Int32))] [(.ref b), (.int (64000 : Int32))])) (fun t k => XS.aloadN X12.here hx rfl (hb hby d_prog_29_method_4_code_27) rfl rfl k) ?_
      obtain ⟨T13, X13, e13, st13⟩ := getF X12 hx hZ hown (host := "") (Or.inl (hw _ (List.mem_of_getElem? (i := 16) rfl))) Via.refl e12 F (g := (mkF m 28 #[.val (.ref b), .val (.int (88200 : Int32)), .val (.int (9 : Int32))] [(.ref b), (.int (64000 : Int32))])) rfl rfl (hb hby d_prog_29_method_4_code_28)
      refine own_via (T' := T13) (g' := (mkF m 31 #[.val (.ref b), .val (.int (88200 : Int32)), .val (.int (9 : Int32))] [(.int q), (.int (64000 : Int32))])) st13 ?_
      by_cases hc14 : (64000 : Int32) < q
      · refine own_via (T' := T13) (g' := (mkF m 46 #[.val (.ref b), .val (.int (88200 : Int32)), .val (.int (9 : Int32))] [])) (fun t k => XS.icmpYes X13.here hx rfl (pc0 := 31) (pc' := 46) rfl (hb hby d_prog_29_method_4_code_31) rfl (tlt hc14).1 (by decide) (by decide) k) ?_
        refine own_via (T' := T13) (g' := (mkF m 47 #[.val (.ref b), .val (.int (88200 : Int32)), .val (.int (9 : Int32))] [(.int (88200 : Int32))])) (fun t k => XS.iloadN X13.here hx rfl (hb hby d_prog_29_method_4_code_46) rfl k) ?_
        exact own_ret (t := .int) X13 hx Bd.returns hlk rfl (Or.inl ⟨rfl, by simp, _, rfl⟩) (hb hby d_prog_29_method_4_code_47) (by decide) (by decide) ⟨congrArg (fun z => some (Value.int z)) (own_ex10 q hc14 hc10).symm, rfl, e13⟩
      · refine own_via (T' := T13) (g' := (mkF m 34 #[.val (.ref b), .val (.int (88200 : Int32)), .val (.int (9 : Int32))] [])) (fun t k => XS.icmpNo X13.here hx rfl (hb hby d_prog_29_method_4_code_31) rfl (flt hc14).1 k) ?_
        obtain ⟨T15, X15, e15, st15⟩ := getS2 X13 hx hZ hown (host := "") (Or.inl (hw _ (List.mem_of_getElem? (i := 25) rfl))) Via.refl e13 SR (g := (mkF m 34 #[.val (.ref b), .val (.int (88200 : Int32)), .val (.int (9 : Int32))] [])) rfl (hb hby d_prog_29_method_4_code_34)
        refine own_via (T' := T15) (g' := (mkF m 37 #[.val (.ref b), .val (.int (88200 : Int32)), .val (.int (9 : Int32))] [(.ref ra)])) st15 ?_
        refine own_via (T' := T15) (g' := (mkF m 38 #[.val (.ref b), .val (.int (88200 : Int32)), .val (.int (9 : Int32))] [(.int (9 : Int32)), (.ref ra)])) (fun t k => XS.iloadN X15.here hx rfl (hb hby d_prog_29_method_4_code_37) rfl k) ?_
        refine own_via (T' := T15) (g' := (mkF m 39 #[.val (.ref b), .val (.int (88200 : Int32)), .val (.int (9 : Int32))] [(.int (64000 : Int32))])) (fun t k => X15.iaload hx (j := (9 : Int32)) (v := .int (64000 : Int32)) (by rw [e15]; exact Ar.1) (State.isArrayOf_alike hZ.alike Ar.2.1) Ar.2.2 (inb_of SZ ⟨by decide, by decide⟩) el9 (g := (mkF m 38 #[.val (.ref b), .val (.int (88200 : Int32)), .val (.int (9 : Int32))] [(.int (9 : Int32)), (.ref ra)])) rfl rfl (hb hby d_prog_29_method_4_code_38) t k) ?_
        refine own_via (T' := T15) (g' := (mkF m 40 #[.val (.ref b), .val (.int (64000 : Int32)), .val (.int (9 : Int32))] [])) (fun t k => XS.istoreN X15.here hx rfl (hb hby d_prog_29_method_4_code_39) rfl (l' := #[.val (.ref b), .val (.int (64000 : Int32)), .val (.int (9 : Int32))]) rfl k) ?_
        refine own_via (T' := T15) (g' := (mkF m 43 #[.val (.ref b), .val (.int (64000 : Int32)), .val (.int ((9 : Int32) + (-1 : Int32)))] [])) (fun t k => XS.iinc X15.here hx rfl (hb hby d_prog_29_method_4_code_40) rfl (l' := #[.val (.ref b), .val (.int (64000 : Int32)), .val (.int ((9 : Int32) + (-1 : Int32)))]) rfl k) ?_
        rw [show ((9 : Int32) + (-1 : Int32)) = (8 : Int32) from by decide]
        refine own_via (T' := T15) (g' := (mkF m 18 #[.val (.ref b), .val (.int (64000 : Int32)), .val (.int (8 : Int32))] [])) (fun t k => XS.goto X15.here hx rfl (pc0 := 43) (pc' := 18) rfl (hb hby d_prog_29_method_4_code_43) (by decide) (by decide) k) ?_
        refine own_via (T' := T15) (g' := (mkF m 19 #[.val (.ref b), .val (.int (64000 : Int32)), .val (.int (8 : Int32))] [(.int (8 : Int32))])) (fun t k => XS.iloadN X15.here hx rfl (hb hby d_prog_29_method_4_code_18) rfl k) ?_
        refine own_via (T' := T15) (g' := (mkF m 22 #[.val (.ref b), .val (.int (64000 : Int32)), .val (.int (8 : Int32))] [])) (fun t k => XS.ifNo X15.here hx rfl (hb hby d_prog_29_method_4_code_19) rfl ((if0 _ _).trans (flt (by decide)).1) k) ?_
        obtain ⟨T16, X16, e16, st16⟩ := getS2 X15 hx hZ hown (host := "") (Or.inl (hw _ (List.mem_of_getElem? (i := 25) rfl))) Via.refl e15 SR (g := (mkF m 22 #[.val (.ref b), .val (.int (64000 : Int32)), .val (.int (8 : Int32))] [])) rfl (hb hby d_prog_29_method_4_code_22)
        refine own_via (T' := T16) (g' := (mkF m 25 #[.val (.ref b), .val (.int (64000 : Int32)), .val (.int (8 : Int32))] [(.ref ra)])) st16 ?_
        refine own_via (T' := T16) (g' := (mkF m 26 #[.val (.ref b), .val (.int (64000 : Int32)), .val (.int (8 : Int32))] [(.int (8 : Int32)), (.ref ra)])) (fun t k => XS.iloadN X16.here hx rfl (hb hby d_prog_29_method_4_code_25) rfl k) ?_
        refine own_via (T' := T16) (g' := (mkF m 27 #[.val (.ref b), .val (.int (64000 : Int32)), .val (.int (8 : Int32))] [(.int (48000 : Int32))])) (fun t k => X16.iaload hx (j := (8 : Int32)) (v := .int (48000 : Int32)) (by rw [e16]; exact Ar.1) (State.isArrayOf_alike hZ.alike Ar.2.1) Ar.2.2 (inb_of SZ ⟨by decide, by decide⟩) el8 (g := (mkF m 26 #[.val (.ref b), .val (.int (64000 : Int32)), .val (.int (8 : Int32))] [(.int (8 : Int32)), (.ref ra)])) rfl rfl (hb hby d_prog_29_method_4_code_26) t k) ?_
        refine own_via (T' := T16) (g' := (mkF m 28 #[.val (.ref b), .val (.int (64000 : Int32)), .val (.int (8 : Int32))] [(.ref b), (.int (48000 : Int32))])) (fun t k => XS.aloadN X16.here hx rfl (hb hby d_prog_29_method_4_code_27) rfl rfl k) ?_
        obtain ⟨T17, X17, e17, st17⟩ := getF X16 hx hZ hown (host := "") (Or.inl (hw _ (List.mem_of_getElem? (i := 16) rfl))) Via.refl e16 F (g := (mkF m 28 #[.val (.ref b), .val (.int (64000 : Int32)), .val (.int (8 : Int32))] [(.ref b), (.int (48000 : Int32))])) rfl rfl (hb hby d_prog_29_method_4_code_28)
        refine own_via (T' := T17) (g' := (mkF m 31 #[.val (.ref b), .val (.int (64000 : Int32)), .val (.int (8 : Int32))] [(.int q), (.int (48000 : Int32))])) st17 ?_
        by_cases hc18 : (48000 : Int32) < q
        · refine own_via (T' := T17) (g' := (mkF m 46 #[.val (.ref b), .val (.int (64000 : Int32)), .val (.int (8 : Int32))] [])) (fun t k => XS.icmpYes X17.here hx rfl (pc0 := 31) (pc' := 46) rfl (hb hby d_prog_29_method_4_code_31) rfl (tlt hc18).1 (by decide) (by decide) k) ?_
          refine own_via (T' := T17) (g' := (mkF m 47 #[.val (.ref b), .val (.int (64000 : Int32)), .val (.int (8 : Int32))] [(.int (64000 : Int32))])) (fun t k => XS.iloadN X17.here hx rfl (hb hby d_prog_29_method_4_code_46) rfl k) ?_
          exact own_ret (t := .int) X17 hx Bd.returns hlk rfl (Or.inl ⟨rfl, by simp, _, rfl⟩) (hb hby d_prog_29_method_4_code_47) (by decide) (by decide) ⟨congrArg (fun z => some (Value.int z)) (own_ex9 q hc18 hc14).symm, rfl, e17⟩
        · refine own_via (T' := T17) (g' := (mkF m 34 #[.val (.ref b), .val (.int (64000 : Int32)), .val (.int (8 : Int32))] [])) (fun t k => XS.icmpNo X17.here hx rfl (hb hby d_prog_29_method_4_code_31) rfl (flt hc18).1 k) ?_
          obtain ⟨T19, X19, e19, st19⟩ := getS2 X17 hx hZ hown (host := "") (Or.inl (hw _ (List.mem_of_getElem? (i := 25) rfl))) Via.refl e17 SR (g := (mkF m 34 #[.val (.ref b), .val (.int (64000 : Int32)), .val (.int (8 : Int32))] [])) rfl (hb hby d_prog_29_method_4_code_34)
          refine own_via (T' := T19) (g' := (mkF m 37 #[.val (.ref b), .val (.int (64000 : Int32)), .val (.int (8 : Int32))] [(.ref ra)])) st19 ?_
          refine own_via (T' := T19) (g' := (mkF m 38 #[.val (.ref b), .val (.int (64000 : Int32)), .val (.int (8 : Int32))] [(.int (8 : Int32)), (.ref ra)])) (fun t k => XS.iloadN X19.here hx rfl (hb hby d_prog_29_method_4_code_37) rfl k) ?_
          refine own_via (T' := T19) (g' := (mkF m 39 #[.val (.ref b), .val (.int (64000 : Int32)), .val (.int (8 : Int32))] [(.int (48000 : Int32))])) (fun t k => X19.iaload hx (j := (8 : Int32)) (v := .int (48000 : Int32)) (by rw [e19]; exact Ar.1) (State.isArrayOf_alike hZ.alike Ar.2.1) Ar.2.2 (inb_of SZ ⟨by decide, by decide⟩) el8 (g := (mkF m 38 #[.val (.ref b), .val (.int (64000 : Int32)), .val (.int (8 : Int32))] [(.int (8 : Int32)), (.ref ra)])) rfl rfl (hb hby d_prog_29_method_4_code_38) t k) ?_
          refine own_via (T' := T19) (g' := (mkF m 40 #[.val (.ref b), .val (.int (48000 : Int32)), .val (.int (8 : Int32))] [])) (fun t k => XS.istoreN X19.here hx rfl (hb hby d_prog_29_method_4_code_39) rfl (l' := #[.val (.ref b), .val (.int (48000 : Int32)), .val (.int (8 : Int32))]) rfl k) ?_
          refine own_via (T' := T19) (g' := (mkF m 43 #[.val (.ref b), .val (.int (48000 : Int32)), .val (.int ((8 : Int32) + (-1 : Int32)))] [])) (fun t k => XS.iinc X19.here hx rfl (hb hby d_prog_29_method_4_code_40) rfl (l' := #[.val (.ref b), .val (.int (48000 : Int32)), .val (.int ((8 : Int32) + (-1 : Int32)))]) rfl k) ?_
          rw [show ((8 : Int32) + (-1 : Int32)) = (7 : Int32) from by decide]
          refine own_via (T' := T19) (g' := (mkF m 18 #[.val (.ref b), .val (.int (48000 : Int32)), .val (.int (7 : Int32))] [])) (fun t k => XS.goto X19.here hx rfl (pc0 := 43) (pc' := 18) rfl (hb hby d_prog_29_method_4_code_43) (by decide) (by decide) k) ?_
          refine own_via (T' := T19) (g' := (mkF m 19 #[.val (.ref b), .val (.int (48000 : Int32)), .val (.int (7 : Int32))] [(.int (7 : Int32))])) (fun t k => XS.iloadN X19.here hx rfl (hb hby d_prog_29_method_4_code_18) rfl k) ?_
          refine own_via (T' := T19) (g' := (mkF m 22 #[.val (.ref b), .val (.int (48000 : Int32)), .val (.int (7 : Int32))] [])) (fun t k => XS.ifNo X19.here hx rfl (hb hby d_prog_29_method_4_code_19) rfl ((if0 _ _).trans (flt (by decide)).1) k) ?_
          obtain ⟨T20, X20, e20, st20⟩ := getS2 X19 hx hZ hown (host := "") (Or.inl (hw _ (List.mem_of_getElem? (i := 25) rfl))) Via.refl e19 SR (g := (mkF m 22 #[.val (.ref b), .val (.int (48000 : Int32)), .val (.int (7 : Int32))] [])) rfl (hb hby d_prog_29_method_4_code_22)
          refine own_via (T' := T20) (g' := (mkF m 25 #[.val (.ref b), .val (.int (48000 : Int32)), .val (.int (7 : Int32))] [(.ref ra)])) st20 ?_
          refine own_via (T' := T20) (g' := (mkF m 26 #[.val (.ref b), .val (.int (48000 : Int32)), .val (.int (7 : Int32))] [(.int (7 : Int32)), (.ref ra)])) (fun t k => XS.iloadN X20.here hx rfl (hb hby d_prog_29_method_4_code_25) rfl k) ?_
          refine own_via (T' := T20) (g' := (mkF m 27 #[.val (.ref b), .val (.int (48000 : Int32)), .val (.int (7 : Int32))] [(.int (44100 : Int32))])) (fun t k => X20.iaload hx (j := (7 : Int32)) (v := .int (44100 : Int32)) (by rw [e20]; exact Ar.1) (State.isArrayOf_alike hZ.alike Ar.2.1) Ar.2.2 (inb_of SZ ⟨by decide, by decide⟩) el7 (g := (mkF m 26 #[.val (.ref b), .val (.int (48000 : Int32)), .val (.int (7 : Int32))] [(.int (7 : Int32)), (.ref ra)])) rfl rfl (hb hby d_prog_29_method_4_code_26) t k) ?_
          refine own_via (T' := T20) (g' := (mkF m 28 #[.val (.ref b), .val (.int (48000 : Int32)), .val (.int (7 : Int32))] [(.ref b), (.int (44100 : Int32))])) (fun t k => XS.aloadN X20.here hx rfl (hb hby d_prog_29_method_4_code_27) rfl rfl k) ?_
          obtain ⟨T21, X21, e21, st21⟩ := getF X20 hx hZ hown (host := "") (Or.inl (hw _ (List.mem_of_getElem? (i := 16) rfl))) Via.refl e20 F (g := (mkF m 28 #[.val (.ref b), .val (.int (48000 : Int32)), .val (.int (7 : Int32))] [(.ref b), (.int (44100 : Int32))])) rfl rfl (hb hby d_prog_29_method_4_code_28)
          refine own_via (T' := T21) (g' := (mkF m 31 #[.val (.ref b), .val (.int (48000 : Int32)), .val (.int (7 : Int32))] [(.int q), (.int (44100 : Int32))])) st21 ?_
          by_cases hc22 : (44100 : Int32) < q
          · refine own_via (T' := T21) (g' := (mkF m 46 #[.val (.ref b), .val (.int (48000 : Int32)), .val (.int (7 : Int32))] [])) (fun t k => XS.icmpYes X21.here hx rfl (pc0 := 31) (pc' := 46) rfl (hb hby d_prog_29_method_4_code_31) rfl (tlt hc22).1 (by decide) (by decide) k) ?_
            refine own_via (T' := T21) (g' := (mkF m 47 #[.val (.ref b), .val (.int (48000 : Int32)), .val (.int (7 : Int32))] [(.int (48000 : Int32))])) (fun t k => XS.iloadN X21.here hx rfl (hb hby d_prog_29_method_4_code_46) rfl k) ?_
            exact own_ret (t := .int) X21 hx Bd.returns hlk rfl (Or.inl ⟨rfl, by simp, _, rfl⟩) (hb hby d_prog_29_method_4_code_47) (by decide) (by decide) ⟨congrArg (fun z => some (Value.int z)) (own_ex8 q hc22 hc18).symm, rfl, e21⟩
          · refine own_via (T' := T21) (g' := (mkF m 34 #[.val (.ref b), .val (.int (48000 : Int32)), .val (.int (7 : Int32))] [])) (fun t k => XS.icmpNo X21.here hx rfl (hb hby d_prog_29_method_4_code_31) rfl (flt hc22).1 k) ?_
            obtain ⟨T23, X23, e23, st23⟩ := getS2 X21 hx hZ hown (host := "") (Or.inl (hw _ (List.mem_of_getElem? (i := 25) rfl))) Via.refl e21 SR (g := (mkF m 34 #[.val (.ref b), .val (.int (48000 : Int32)), .val (.int (7 : Int32))] [])) rfl (hb hby d_prog_29_method_4_code_34)
            refine own_via (T' := T23) (g' := (mkF m 37 #[.val (.ref b), .val (.int (48000 : Int32)), .val (.int (7 : Int32))] [(.ref ra)])) st23 ?_
            refine own_via (T' := T23) (g' := (mkF m 38 #[.val (.ref b), .val (.int (48000 : Int32)), .val (.int (7 : Int32))] [(.int (7 : Int32)), (.ref ra)])) (fun t k => XS.iloadN X23.here hx rfl (hb hby d_prog_29_method_4_code_37) rfl k) ?_
            refine own_via (T' := T23) (g' := (mkF m 39 #[.val (.ref b), .val (.int (48000 : Int32)), .val (.int (7 : Int32))] [(.int (44100 : Int32))])) (fun t k => X23.iaload hx (j := (7 : Int32)) (v := .int (44100 : Int32)) (by rw [e23]; exact Ar.1) (State.isArrayOf_alike hZ.alike Ar.2.1) Ar.2.2 (inb_of SZ ⟨by decide, by decide⟩) el7 (g := (mkF m 38 #[.val (.ref b), .val (.int (48000 : Int32)), .val (.int (7 : Int32))] [(.int (7 : Int32)), (.ref ra)])) rfl rfl (hb hby d_prog_29_method_4_code_38) t k) ?_
            refine own_via (T' := T23) (g' := (mkF m 40 #[.val (.ref b), .val (.int (44100 : Int32)), .val (.int (7 : Int32))] [])) (fun t k => XS.istoreN X23.here hx rfl (hb hby d_prog_29_method_4_code_39) rfl (l' := #[.val (.ref b), .val (.int (44100 : Int32)), .val (.int (7 : Int32))]) rfl k) ?_
            refine own_via (T' := T23) (g' := (mkF m 43 #[.val (.ref b), .val (.int (44100 : Int32)), .val (.int ((7 : Int32) + (-1 : Int32)))] [])) (fun t k => XS.iinc X23.here hx rfl (hb hby d_prog_29_method_4_code_40) rfl (l' := #[.val (.ref b), .val (.int (44100 : Int32)), .val (.int ((7 : Int32) + (-1 : Int32)))]) rfl k) ?_
            rw [show ((7 : Int32) + (-1 : Int32)) = (6 : Int32) from by decide]
            refine own_via (T' := T23) (g' := (mkF m 18 #[.val (.ref b), .val (.int (44100 : Int32)), .val (.int (6 : Int32))] [])) (fun t k => XS.goto X23.here hx rfl (pc0 := 43) (pc' := 18) rfl (hb hby d_prog_29_method_4_code_43) (by decide) (by decide) k) ?_
            refine own_via (T' := T23) (g' := (mkF m 19 #[.val (.ref b), .val (.int (44100 : Int32)), .val (.int (6 : Int32))] [(.int (6 : Int32))])) (fun t k => XS.iloadN X23.here hx rfl (hb hby d_prog_29_method_4_code_18) rfl k) ?_
            refine own_via (T' := T23) (g' := (mkF m 22 #[.val (.ref b), .val (.int (44100 : Int32)), .val (.int (6 : Int32))] [])) (fun t k => XS.ifNo X23.here hx rfl (hb hby d_prog_29_method_4_code_19) rfl ((if0 _ _).trans (flt (by decide)).1) k) ?_
            obtain ⟨T24, X24, e24, st24⟩ := getS2 X23 hx hZ hown (host := "") (Or.inl (hw _ (List.mem_of_getElem? (i := 25) rfl))) Via.refl e23 SR (g := (mkF m 22 #[.val (.ref b), .val (.int (44100 : Int32)), .val (.int (6 : Int32))] [])) rfl (hb hby d_prog_29_method_4_code_22)
            refine own_via (T' := T24) (g' := (mkF m 25 #[.val (.ref b), .val (.int (44100 : Int32)), .val (.int (6 : Int32))] [(.ref ra)])) st24 ?_
            refine own_via (T' := T24) (g' := (mkF m 26 #[.val (.ref b), .val (.int (44100 : Int32)), .val (.int (6 : Int32))] [(.int (6 : Int32)), (.ref ra)])) (fun t k => XS.iloadN X24.here hx rfl (hb hby d_prog_29_method_4_code_25) rfl k) ?_
            refine own_via (T' := T24) (g' := (mkF m 27 #[.val (.ref b), .val (.int (44100 : Int32)), .val (.int (6 : Int32))] [(.int (32000 : Int32))])) (fun t k => X24.iaload hx (j := (6 : Int32)) (v := .int (32000 : Int32)) (by rw [e24]; exact Ar.1) (State.isArrayOf_alike hZ.alike Ar.2.1) Ar.2.2 (inb_of SZ ⟨by decide, by decide⟩) el6 (g := (mkF m 26 #[.val (.ref b), .val (.int (44100 : Int32)), .val (.int (6 : Int32))] [(.int (6 : Int32)), (.ref ra)])) rfl rfl (hb hby d_prog_29_method_4_code_26) t k) ?_
            refine own_via (T' := T24) (g' := (mkF m 28 #[.val (.ref b), .val (.int (44100 : Int32)), .val (.int (6 : Int32))] [(.ref b), (.int (32000 : Int32))])) (fun t k => XS.aloadN X24.here hx rfl (hb hby d_prog_29_method_4_code_27) rfl rfl k) ?_
            obtain ⟨T25, X25, e25, st25⟩ := getF X24 hx hZ hown (host := "") (Or.inl (hw _ (List.mem_of_getElem? (i := 16) rfl))) Via.refl e24 F (g := (mkF m 28 #[.val (.ref b), .val (.int (44100 : Int32)), .val (.int (6 : Int32))] [(.ref b), (.int (32000 : Int32))])) rfl rfl (hb hby d_prog_29_method_4_code_28)
            refine own_via (T' := T25) (g' := (mkF m 31 #[.val (.ref b), .val (.int (44100 : Int32)), .val (.int (6 : Int32))] [(.int q), (.int (32000 : Int32))])) st25 ?_
            by_cases hc26 : (32000 : Int32) < q
            · refine own_via (T' := T25) (g' := (mkF m 46 #[.val (.ref b), .val (.int (44100 : Int32)), .val (.int (6 : Int32))] [])) (fun t k => XS.icmpYes X25.here hx rfl (pc0 := 31) (pc' := 46) rfl (hb hby d_prog_29_method_4_code_31) rfl (tlt hc26).1 (by decide) (by decide) k) ?_
              refine own_via (T' := T25) (g' := (mkF m 47 #[.val (.ref b), .val (.int (44100 : Int32)), .val (.int (6 : Int32))] [(.int (44100 : Int32))])) (fun t k => XS.iloadN X25.here hx rfl (hb hby d_prog_29_method_4_code_46) rfl k) ?_
              exact own_ret (t := .int) X25 hx Bd.returns hlk rfl (Or.inl ⟨rfl, by simp, _, rfl⟩) (hb hby d_prog_29_method_4_code_47) (by decide) (by decide) ⟨congrArg (fun z => some (Value.int z)) (own_ex7 q hc26 hc22).symm, rfl, e25⟩
            · refine own_via (T' := T25) (g' := (mkF m 34 #[.val (.ref b), .val (.int (44100 : Int32)), .val (.int (6 : Int32))] [])) (fun t k => XS.icmpNo X25.here hx rfl (hb hby d_prog_29_method_4_code_31) rfl (flt hc26).1 k) ?_
              obtain ⟨T27, X27, e27, st27⟩ := getS2 X25 hx hZ hown (host := "") (Or.inl (hw _ (List.mem_of_getElem? (i := 25) rfl))) Via.refl e25 SR (g := (mkF m 34 #[.val (.ref b), .val (.int (44100 : Int32)), .val (.int (6 : Int32))] [])) rfl (hb hby d_prog_29_method_4_code_34)
              refine own_via (T' := T27) (g' := (mkF m 37 #[.val (.ref b), .val (.int (44100 : Int32)), .val (.int (6 : Int32))] [(.ref ra)])) st27 ?_
              refine own_via (T' := T27) (g' := (mkF m 38 #[.val (.ref b), .val (.int (44100 : Int32)), .val (.int (6 : Int32))] [(.int (6 : Int32)), (.ref ra)])) (fun t k => XS.iloadN X27.here hx rfl (hb hby d_prog_29_method_4_code_37) rfl k) ?_
              refine own_via (T' := T27) (g' := (mkF m 39 #[.val (.ref b), .val (.int (44100 : Int32)), .val (.int (6 : Int32))] [(.int (32000 : Int32))])) (fun t k => X27.iaload hx (j := (6 : Int32)) (v := .int (32000 : Int32)) (by rw [e27]; exact Ar.1) (State.isArrayOf_alike hZ.alike Ar.2.1) Ar.2.2 (inb_of SZ ⟨by decide, by decide⟩) el6 (g := (mkF m 38 #[.val (.ref b), .val (.int (44100 : Int32)), .val (.int (6 : Int32))] [(.int (6 : Int32)), (.ref ra)])) rfl rfl (hb hby d_prog_29_method_4_code_38) t k) ?_
              refine own_via (T' := T27) (g' := (mkF m 40 #[.val (.ref b), .val (.int (32000 : Int32)), .val (.int (6 : Int32))] [])) (fun t k => XS.istoreN X27.here hx rfl (hb hby d_prog_29_method_4_code_39) rfl (l' := #[.val (.ref b), .val (.int (32000 : Int32)), .val (.int (6 : Int32))]) rfl k) ?_
              refine own_via (T' := T27) (g' := (mkF m 43 #[.val (.ref b), .val (.int (32000 : Int32)), .val (.int ((6 : Int32) + (-1 : Int32)))] [])) (fun t k => XS.iinc X27.here hx rfl (hb hby d_prog_29_method_4_code_40) rfl (l' := #[.val (.ref b), .val (.int (32000 : Int32)), .val (.int ((6 : Int32) + (-1 : Int32)))]) rfl k) ?_
              rw [show ((6 : Int32) + (-1 : Int32)) = (5 : Int32) from by decide]
              refine own_via (T' := T27) (g' := (mkF m 18 #[.val (.ref b), .val (.int (32000 : Int32)), .val (.int (5 : Int32))] [])) (fun t k => XS.goto X27.here hx rfl (pc0 := 43) (pc' := 18) rfl (hb hby d_prog_29_method_4_code_43) (by decide) (by decide) k) ?_
              refine own_via (T' := T27) (g' := (mkF m 19 #[.val (.ref b), .val (.int (32000 : Int32)), .val (.int (5 : Int32))] [(.int (5 : Int32))])) (fun t k => XS.iloadN X27.here hx rfl (hb hby d_prog_29_method_4_code_18) rfl k) ?_
              refine own_via (T' := T27) (g' := (mkF m 22 #[.val (.ref b), .val (.int (32000 : Int32)), .val (.int (5 : Int32))] [])) (fun t k => XS.ifNo X27.here hx rfl (hb hby d_prog_29_method_4_code_19) rfl ((if0 _ _).trans (flt (by decide)).1) k) ?_
              obtain ⟨T28, X28, e28, st28⟩ := getS2 X27 hx hZ hown (host := "") (Or.inl (hw _ (List.mem_of_getElem? (i := 25) rfl))) Via.refl e27 SR (g := (mkF m 22 #[.val (.ref b), .val (.int (32000 : Int32)), .val (.int (5 : Int32))] [])) rfl (hb hby d_prog_29_method_4_code_22)
              refine own_via (T' := T28) (g' := (mkF m 25 #[.val (.ref b), .val (.int (32000 : Int32)), .val (.int (5 : Int32))] [(.ref ra)])) st28 ?_
              refine own_via (T' := T28) (g' := (mkF m 26 #[.val (.ref b), .val (.int (32000 : Int32)), .val (.int (5 : Int32))] [(.int (5 : Int32)), (.ref ra)])) (fun t k => XS.iloadN X28.here hx rfl (hb hby d_prog_29_method_4_code_25) rfl k) ?_
              refine own_via (T' := T28) (g' := (mkF m 27 #[.val (.ref b), .val (.int (32000 : Int32)), .val (.int (5 : Int32))] [(.int (24000 : Int32))])) (fun t k => X28.iaload hx (j := (5 : Int32)) (v := .int (24000 : Int32)) (by rw [e28]; exact Ar.1) (State.isArrayOf_alike hZ.alike Ar.2.1) Ar.2.2 (inb_of SZ ⟨by decide, by decide⟩) el5 (g := (mkF m 26 #[.val (.ref b), .val (.int (32000 : Int32)), .val (.int (5 : Int32))] [(.int (5 : Int32)), (.ref ra)])) rfl rfl (hb hby d_prog_29_method_4_code_26) t k) ?_
              refine own_via (T' := T28) (g' := (mkF m 28 #[.val (.ref b), .val (.int (32000 : Int32)), .val (.int (5 : Int32))] [(.ref b), (.int (24000 : Int32))])) (fun t k => XS.aloadN X28.here hx rfl (hb hby d_prog_29_method_4_code_27) rfl rfl k) ?_
              obtain ⟨T29, X29, e29, st29⟩ := getF X28 hx hZ hown (host := "") (Or.inl (hw _ (List.mem_of_getElem? (i := 16) rfl))) Via.refl e28 F (g := (mkF m 28 #[.val (.ref b), .val (.int (32000 : Int32)), .val (.int (5 : Int32))] [(.ref b), (.int (24000 : Int32))])) rfl rfl (hb hby d_prog_29_method_4_code_28)
              refine own_via (T' := T29) (g' := (mkF m 31 #[.val (.ref b), .val (.int (32000 : Int32)), .val (.int (5 : Int32))] [(.int q), (.int (24000 : Int32))])) st29 ?_
              by_cases hc30 : (24000 : Int32) < q
              · refine own_via (T' := T29) (g' := (mkF m 46 #[.val (.ref b), .val (.int (32000 : Int32)), .val (.int (5 : Int32))] [])) (fun t k => XS.icmpYes X29.here hx rfl (pc0 := 31) (pc' := 46) rfl (hb hby d_prog_29_method_4_code_31) rfl (tlt hc30).1 (by decide) (by decide) k) ?_
                refine own_via (T' := T29) (g' := (mkF m 47 #[.val (.ref b), .val (.int (32000 : Int32)), .val (.int (5 : Int32))] [(.int (32000 : Int32))])) (fun t k => XS.iloadN X29.here hx rfl (hb hby d_prog_29_method_4_code_46) rfl k) ?_
                exact own_ret (t := .int) X29 hx Bd.returns hlk rfl (Or.inl ⟨rfl, by simp, _, rfl⟩) (hb hby d_prog_29_method_4_code_47) (by decide) (by decide) ⟨congrArg (fun z => some (Value.int z)) (own_ex6 q hc30 hc26).symm, rfl, e29⟩
              · refine own_via (T' := T29) (g' := (mkF m 34 #[.val (.ref b), .val (.int (32000 : Int32)), .val (.int (5 : Int32))] [])) (fun t k => XS.icmpNo X29.here hx rfl (hb hby d_prog_29_method_4_code_31) rfl (flt hc30).1 k) ?_
                obtain ⟨T31, X31, e31, st31⟩ := getS2 X29 hx hZ hown (host := "") (Or.inl (hw _ (List.mem_of_getElem? (i := 25) rfl))) Via.refl e29 SR (g := (mkF m 34 #[.val (.ref b), .val (.int (32000 : Int32)), .val (.int (5 : Int32))] [])) rfl (hb hby d_prog_29_method_4_code_34)
                refine own_via (T' := T31) (g' := (mkF m 37 #[.val (.ref b), .val (.int (32000 : Int32)), .val (.int (5 : Int32))] [(.ref ra)])) st31 ?_
                refine own_via (T' := T31) (g' := (mkF m 38 #[.val (.ref b), .val (.int (32000 : Int32)), .val (.int (5 : Int32))] [(.int (5 : Int32)), (.ref ra)])) (fun t k => XS.iloadN X31.here hx rfl (hb hby d_prog_29_method_4_code_37) rfl k) ?_
                refine own_via (T' := T31) (g' := (mkF m 39 #[.val (.ref b), .val (.int (32000 : Int32)), .val (.int (5 : Int32))] [(.int (24000 : Int32))])) (fun t k => X31.iaload hx (j := (5 : Int32)) (v := .int (24000 : Int32)) (by rw [e31]; exact Ar.1) (State.isArrayOf_alike hZ.alike Ar.2.1) Ar.2.2 (inb_of SZ ⟨by decide, by decide⟩) el5 (g := (mkF m 38 #[.val (.ref b), .val (.int (32000 : Int32)), .val (.int (5 : Int32))] [(.int (5 : Int32)), (.ref ra)])) rfl rfl (hb hby d_prog_29_method_4_code_38) t k) ?_
                refine own_via (T' := T31) (g' := (mkF m 40 #[.val (.ref b), .val (.int (24000 : Int32)), .val (.int (5 : Int32))] [])) (fun t k => XS.istoreN X31.here hx rfl (hb hby d_prog_29_method_4_code_39) rfl (l' := #[.val (.ref b), .val (.int (24000 : Int32)), .val (.int (5 : Int32))]) rfl k) ?_
                refine own_via (T' := T31) (g' := (mkF m 43 #[.val (.ref b), .val (.int (24000 : Int32)), .val (.int ((5 : Int32) + (-1 : Int32)))] [])) (fun t k => XS.iinc X31.here hx rfl (hb hby d_prog_29_method_4_code_40) rfl (l' := #[.val (.ref b), .val (.int (24000 : Int32)), .val (.int ((5 : Int32) + (-1 : Int32)))]) rfl k) ?_
                rw [show ((5 : Int32) + (-1 : Int32)) = (4 : Int32) from by decide]
                refine own_via (T' := T31) (g' := (mkF m 18 #[.val (.ref b), .val (.int (24000 : Int32)), .val (.int (4 : Int32))] [])) (fun t k => XS.goto X31.here hx rfl (pc0 := 43) (pc' := 18) rfl (hb hby d_prog_29_method_4_code_43) (by decide) (by decide) k) ?_
                refine own_via (T' := T31) (g' := (mkF m 19 #[.val (.ref b), .val (.int (24000 : Int32)), .val (.int (4 : Int32))] [(.int (4 : Int32))])) (fun t k => XS.iloadN X31.here hx rfl (hb hby d_prog_29_method_4_code_18) rfl k) ?_
                refine own_via (T' := T31) (g' := (mkF m 22 #[.val (.ref b), .val (.int (24000 : Int32)), .val (.int (4 : Int32))] [])) (fun t k => XS.ifNo X31.here hx rfl (hb hby d_prog_29_method_4_code_19) rfl ((if0 _ _).trans (flt (by decide)).1) k) ?_
                obtain ⟨T32, X32, e32, st32⟩ := getS2 X31 hx hZ hown (host := "") (Or.inl (hw _ (List.mem_of_getElem? (i := 25) rfl))) Via.refl e31 SR (g := (mkF m 22 #[.val (.ref b), .val (.int (24000 : Int32)), .val (.int (4 : Int32))] [])) rfl (hb hby d_prog_29_method_4_code_22)
                refine own_via (T' := T32) (g' := (mkF m 25 #[.val (.ref b), .val (.int (24000 : Int32)), .val (.int (4 : Int32))] [(.ref ra)])) st32 ?_
                refine own_via (T' := T32) (g' := (mkF m 26 #[.val (.ref b), .val (.int (24000 : Int32)), .val (.int (4 : Int32))] [(.int (4 : Int32)), (.ref ra)])) (fun t k => XS.iloadN X32.here hx rfl (hb hby d_prog_29_method_4_code_25) rfl k) ?_
                refine own_via (T' := T32) (g' := (mkF m 27 #[.val (.ref b), .val (.int (24000 : Int32)), .val (.int (4 : Int32))] [(.int (22050 : Int32))])) (fun t k => X32.iaload hx (j := (4 : Int32)) (v := .int (22050 : Int32)) (by rw [e32]; exact Ar.1) (State.isArrayOf_alike hZ.alike Ar.2.1) Ar.2.2 (inb_of SZ ⟨by decide, by decide⟩) el4 (g := (mkF m 26 #[.val (.ref b), .val (.int (24000 : Int32)), .val (.int (4 : Int32))] [(.int (4 : Int32)), (.ref ra)])) rfl rfl (hb hby d_prog_29_method_4_code_26) t k) ?_
                refine own_via (T' := T32) (g' := (mkF m 28 #[.val (.ref b), .val (.int (24000 : Int32)), .val (.int (4 : Int32))] [(.ref b), (.int (22050 : Int32))])) (fun t k => XS.aloadN X32.here hx rfl (hb hby d_prog_29_method_4_code_27) rfl rfl k) ?_
                obtain ⟨T33, X33, e33, st33⟩ := getF X32 hx hZ hown (host := "") (Or.inl (hw _ (List.mem_of_getElem? (i := 16) rfl))) Via.refl e32 F (g := (mkF m 28 #[.val (.ref b), .val (.int (24000 : Int32)), .val (.int (4 : Int32))] [(.ref b), (.int (22050 : Int32))])) rfl rfl (hb hby d_prog_29_method_4_code_28)
                refine own_via (T' := T33) (g' := (mkF m 31 #[.val (.ref b), .val (.int (24000 : Int32)), .val (.int (4 : Int32))] [(.int q), (.int (22050 : Int32))])) st33 ?_
                by_cases hc34 : (22050 : Int32) < q
                · refine own_via (T' := T33) (g' := (mkF m 46 #[.val (.ref b), .val (.int (24000 : Int32)), .val (.int (4 : Int32))] [])) (fun t k => XS.icmpYes X33.here hx rfl (pc0 := 31) (pc' := 46) rfl (hb hby d_prog_29_method_4_code_31) rfl (tlt hc34).1 (by decide) (by decide) k) ?_
                  refine own_via (T' := T33) (g' := (mkF m 47 #[.val (.ref b), .val (.int (24000 : Int32)), .val (.int (4 : Int32))] [(.int (24000 : Int32))])) (fun t k => XS.iloadN X33.here hx rfl (hb hby d_prog_29_method_4_code_46) rfl k) ?_
                  exact own_ret (t := .int) X33 hx Bd.returns hlk rfl (Or.inl ⟨rfl, by simp, _, rfl⟩) (hb hby d_prog_29_method_4_code_47) (by decide) (by decide) ⟨congrArg (fun z => some (Value.int z)) (own_ex5 q hc34 hc30).symm, rfl, e33⟩
                · refine own_via (T' := T33) (g' := (mkF m 34 #[.val (.ref b), .val (.int (24000 : Int32)), .val (.int (4 : Int32))] [])) (fun t k => XS.icmpNo X33.here hx rfl (hb hby d_prog_29_method_4_code_31) rfl (flt hc34).1 k) ?_
                  obtain ⟨T35, X35, e35, st35⟩ := getS2 X33 hx hZ hown (host := "") (Or.inl (hw _ (List.mem_of_getElem? (i := 25) rfl))) Via.refl e33 SR (g := (mkF m 34 #[.val (.ref b), .val (.int (24000 : Int32)), .val (.int (4 : Int32))] [])) rfl (hb hby d_prog_29_method_4_code_34)
                  refine own_via (T' := T35) (g' := (mkF m 37 #[.val (.ref b), .val (.int (24000 : Int32)), .val (.int (4 : Int32))] [(.ref ra)])) st35 ?_
                  refine own_via (T' := T35) (g' := (mkF m 38 #[.val (.ref b), .val (.int (24000 : Int32)), .val (.int (4 : Int32))] [(.int (4 : Int32)), (.ref ra)])) (fun t k => XS.iloadN X35.here hx rfl (hb hby d_prog_29_method_4_code_37) rfl k) ?_
                  refine own_via (T' := T35) (g' := (mkF m 39 #[.val (.ref b), .val (.int (24000 : Int32)), .val (.int (4 : Int32))] [(.int (22050 : Int32))])) (fun t k => X35.iaload hx (j := (4 : Int32)) (v := .int (22050 : Int32)) (by rw [e35]; exact Ar.1) (State.isArrayOf_alike hZ.alike Ar.2.1) Ar.2.2 (inb_of SZ ⟨by decide, by decide⟩) el4 (g := (mkF m 38 #[.val (.ref b), .val (.int (24000 : Int32)), .val (.int (4 : Int32))] [(.int (4 : Int32)), (.ref ra)])) rfl rfl (hb hby d_prog_29_method_4_code_38) t k) ?_
                  refine own_via (T' := T35) (g' := (mkF m 40 #[.val (.ref b), .val (.int (22050 : Int32)), .val (.int (4 : Int32))] [])) (fun t k => XS.istoreN X35.here hx rfl (hb hby d_prog_29_method_4_code_39) rfl (l' := #[.val (.ref b), .val (.int (22050 : Int32)), .val (.int (4 : Int32))]) rfl k) ?_
                  refine own_via (T' := T35) (g' := (mkF m 43 #[.val (.ref b), .val (.int (22050 : Int32)), .val (.int ((4 : Int32) + (-1 : Int32)))] [])) (fun t k => XS.iinc X35.here hx rfl (hb hby d_prog_29_method_4_code_40) rfl (l' := #[.val (.ref b), .val (.int (22050 : Int32)), .val (.int ((4 : Int32) + (-1 : Int32)))]) rfl k) ?_
                  rw [show ((4 : Int32) + (-1 : Int32)) = (3 : Int32) from by decide]
                  refine own_via (T' := T35) (g' := (mkF m 18 #[.val (.ref b), .val (.int (22050 : Int32)), .val (.int (3 : Int32))] [])) (fun t k => XS.goto X35.here hx rfl (pc0 := 43) (pc' := 18) rfl (hb hby d_prog_29_method_4_code_43) (by decide) (by decide) k) ?_
                  refine own_via (T' := T35) (g' := (mkF m 19 #[.val (.ref b), .val (.int (22050 : Int32)), .val (.int (3 : Int32))] [(.int (3 : Int32))])) (fun t k => XS.iloadN X35.here hx rfl (hb hby d_prog_29_method_4_code_18) rfl k) ?_
                  refine own_via (T' := T35) (g' := (mkF m 22 #[.val (.ref b), .val (.int (22050 : Int32)), .val (.int (3 : Int32))] [])) (fun t k => XS.ifNo X35.here hx rfl (hb hby d_prog_29_method_4_code_19) rfl ((if0 _ _).trans (flt (by decide)).1) k) ?_
                  obtain ⟨T36, X36, e36, st36⟩ := getS2 X35 hx hZ hown (host := "") (Or.inl (hw _ (List.mem_of_getElem? (i := 25) rfl))) Via.refl e35 SR (g := (mkF m 22 #[.val (.ref b), .val (.int (22050 : Int32)), .val (.int (3 : Int32))] [])) rfl (hb hby d_prog_29_method_4_code_22)
                  refine own_via (T' := T36) (g' := (mkF m 25 #[.val (.ref b), .val (.int (22050 : Int32)), .val (.int (3 : Int32))] [(.ref ra)])) st36 ?_
                  refine own_via (T' := T36) (g' := (mkF m 26 #[.val (.ref b), .val (.int (22050 : Int32)), .val (.int (3 : Int32))] [(.int (3 : Int32)), (.ref ra)])) (fun t k => XS.iloadN X36.here hx rfl (hb hby d_prog_29_method_4_code_25) rfl k) ?_
                  refine own_via (T' := T36) (g' := (mkF m 27 #[.val (.ref b), .val (.int (22050 : Int32)), .val (.int (3 : Int32))] [(.int (16000 : Int32))])) (fun t k => X36.iaload hx (j := (3 : Int32)) (v := .int (16000 : Int32)) (by rw [e36]; exact Ar.1) (State.isArrayOf_alike hZ.alike Ar.2.1) Ar.2.2 (inb_of SZ ⟨by decide, by decide⟩) el3 (g := (mkF m 26 #[.val (.ref b), .val (.int (22050 : Int32)), .val (.int (3 : Int32))] [(.int (3 : Int32)), (.ref ra)])) rfl rfl (hb hby d_prog_29_method_4_code_26) t k) ?_
                  refine own_via (T' := T36) (g' := (mkF m 28 #[.val (.ref b), .val (.int (22050 : Int32)), .val (.int (3 : Int32))] [(.ref b), (.int (16000 : Int32))])) (fun t k => XS.aloadN X36.here hx rfl (hb hby d_prog_29_method_4_code_27) rfl rfl k) ?_
                  obtain ⟨T37, X37, e37, st37⟩ := getF X36 hx hZ hown (host := "") (Or.inl (hw _ (List.mem_of_getElem? (i := 16) rfl))) Via.refl e36 F (g := (mkF m 28 #[.val (.ref b), .val (.int (22050 : Int32)), .val (.int (3 : Int32))] [(.ref b), (.int (16000 : Int32))])) rfl rfl (hb hby d_prog_29_method_4_code_28)
                  refine own_via (T' := T37) (g' := (mkF m 31 #[.val (.ref b), .val (.int (22050 : Int32)), .val (.int (3 : Int32))] [(.int q), (.int (16000 : Int32))])) st37 ?_
                  by_cases hc38 : (16000 : Int32) < q
                  · refine own_via (T' := T37) (g' := (mkF m 46 #[.val (.ref b), .val (.int (22050 : Int32)), .val (.int (3 : Int32))] [])) (fun t k => XS.icmpYes X37.here hx rfl (pc0 := 31) (pc' := 46) rfl (hb hby d_prog_29_method_4_code_31) rfl (tlt hc38).1 (by decide) (by decide) k) ?_
                    refine own_via (T' := T37) (g' := (mkF m 47 #[.val (.ref b), .val (.int (22050 : Int32)), .val (.int (3 : Int32))] [(.int (22050 : Int32))])) (fun t k => XS.iloadN X37.here hx rfl (hb hby d_prog_29_method_4_code_46) rfl k) ?_
                    exact own_ret (t := .int) X37 hx Bd.returns hlk rfl (Or.inl ⟨rfl, by simp, _, rfl⟩) (hb hby d_prog_29_method_4_code_47) (by decide) (by decide) ⟨congrArg (fun z => some (Value.int z)) (own_ex4 q hc38 hc34).symm, rfl, e37⟩
                  · refine own_via (T' := T37) (g' := (mkF m 34 #[.val (.ref b), .val (.int (22050 : Int32)), .val (.int (3 : Int32))] [])) (fun t k => XS.icmpNo X37.here hx rfl (hb hby d_prog_29_method_4_code_31) rfl (flt hc38).1 k) ?_
                    obtain ⟨T39, X39, e39, st39⟩ := getS2 X37 hx hZ hown (host := "") (Or.inl (hw _ (List.mem_of_getElem? (i := 25) rfl))) Via.refl e37 SR (g := (mkF m 34 #[.val (.ref b), .val (.int (22050 : Int32)), .val (.int (3 : Int32))] [])) rfl (hb hby d_prog_29_method_4_code_34)
                    refine own_via (T' := T39) (g' := (mkF m 37 #[.val (.ref b), .val (.int (22050 : Int32)), .val (.int (3 : Int32))] [(.ref ra)])) st39 ?_
                    refine own_via (T' := T39) (g' := (mkF m 38 #[.val (.ref b), .val (.int (22050 : Int32)), .val (.int (3 : Int32))] [(.int (3 : Int32)), (.ref ra)])) (fun t k => XS.iloadN X39.here hx rfl (hb hby d_prog_29_method_4_code_37) rfl k) ?_
                    refine own_via (T' := T39) (g' := (mkF m 39 #[.val (.ref b), .val (.int (22050 : Int32)), .val (.int (3 : Int32))] [(.int (16000 : Int32))])) (fun t k => X39.iaload hx (j := (3 : Int32)) (v := .int (16000 : Int32)) (by rw [e39]; exact Ar.1) (State.isArrayOf_alike hZ.alike Ar.2.1) Ar.2.2 (inb_of SZ ⟨by decide, by decide⟩) el3 (g := (mkF m 38 #[.val (.ref b), .val (.int (22050 : Int32)), .val (.int (3 : Int32))] [(.int (3 : Int32)), (.ref ra)])) rfl rfl (hb hby d_prog_29_method_4_code_38) t k) ?_
                    refine own_via (T' := T39) (g' := (mkF m 40 #[.val (.ref b), .val (.int (16000 : Int32)), .val (.int (3 : Int32))] [])) (fun t k => XS.istoreN X39.here hx rfl (hb hby d_prog_29_method_4_code_39) rfl (l' := #[.val (.ref b), .val (.int (16000 : Int32)), .val (.int (3 : Int32))]) rfl k) ?_
                    refine own_via (T' := T39) (g' := (mkF m 43 #[.val (.ref b), .val (.int (16000 : Int32)), .val (.int ((3 : Int32) + (-1 : Int32)))] [])) (fun t k => XS.iinc X39.here hx rfl (hb hby d_prog_29_method_4_code_40) rfl (l' := #[.val (.ref b), .val (.int (16000 : Int32)), .val (.int ((3 : Int32) + (-1 : Int32)))]) rfl k) ?_
                    rw [show ((3 : Int32) + (-1 : Int32)) = (2 : Int32) from by decide]
                    refine own_via (T' := T39) (g' := (mkF m 18 #[.val (.ref b), .val (.int (16000 : Int32)), .val (.int (2 : Int32))] [])) (fun t k => XS.goto X39.here hx rfl (pc0 := 43) (pc' := 18) rfl (hb hby d_prog_29_method_4_code_43) (by decide) (by decide) k) ?_
                    refine own_via (T' := T39) (g' := (mkF m 19 #[.val (.ref b), .val (.int (16000 : Int32)), .val (.int (2 : Int32))] [(.int (2 : Int32))])) (fun t k => XS.iloadN X39.here hx rfl (hb hby d_prog_29_method_4_code_18) rfl k) ?_
                    refine own_via (T' := T39) (g' := (mkF m 22 #[.val (.ref b), .val (.int (16000 : Int32)), .val (.int (2 : Int32))] [])) (fun t k => XS.ifNo X39.here hx rfl (hb hby d_prog_29_method_4_code_19) rfl ((if0 _ _).trans (flt (by decide)).1) k) ?_
                    obtain ⟨T40, X40, e40, st40⟩ := getS2 X39 hx hZ hown (host := "") (Or.inl (hw _ (List.mem_of_getElem? (i := 25) rfl))) Via.refl e39 SR (g := (mkF m 22 #[.val (.ref b), .val (.int (16000 : Int32)), .val (.int (2 : Int32))] [])) rfl (hb hby d_prog_29_method_4_code_22)
                    refine own_via (T' := T40) (g' := (mkF m 25 #[.val (.ref b), .val (.int (16000 : Int32)), .val (.int (2 : Int32))] [(.ref ra)])) st40 ?_
                    refine own_via (T' := T40) (g' := (mkF m 26 #[.val (.ref b), .val (.int (16000 : Int32)), .val (.int (2 : Int32))] [(.int (2 : Int32)), (.ref ra)])) (fun t k => XS.iloadN X40.here hx rfl (hb hby d_prog_29_method_4_code_25) rfl k) ?_
                    refine own_via (T' := T40) (g' := (mkF m 27 #[.val (.ref b), .val (.int (16000 : Int32)), .val (.int (2 : Int32))] [(.int (12000 : Int32))])) (fun t k => X40.iaload hx (j := (2 : Int32)) (v := .int (12000 : Int32)) (by rw [e40]; exact Ar.1) (State.isArrayOf_alike hZ.alike Ar.2.1) Ar.2.2 (inb_of SZ ⟨by decide, by decide⟩) el2 (g := (mkF m 26 #[.val (.ref b), .val (.int (16000 : Int32)), .val (.int (2 : Int32))] [(.int (2 : Int32)), (.ref ra)])) rfl rfl (hb hby d_prog_29_method_4_code_26) t k) ?_
                    refine own_via (T' := T40) (g' := (mkF m 28 #[.val (.ref b), .val (.int (16000 : Int32)), .val (.int (2 : Int32))] [(.ref b), (.int (12000 : Int32))])) (fun t k => XS.aloadN X40.here hx rfl (hb hby d_prog_29_method_4_code_27) rfl rfl k) ?_
                    obtain ⟨T41, X41, e41, st41⟩ := getF X40 hx hZ hown (host := "") (Or.inl (hw _ (List.mem_of_getElem? (i := 16) rfl))) Via.refl e40 F (g := (mkF m 28 #[.val (.ref b), .val (.int (16000 : Int32)), .val (.int (2 : Int32))] [(.ref b), (.int (12000 : Int32))])) rfl rfl (hb hby d_prog_29_method_4_code_28)
                    refine own_via (T' := T41) (g' := (mkF m 31 #[.val (.ref b), .val (.int (16000 : Int32)), .val (.int (2 : Int32))] [(.int q), (.int (12000 : Int32))])) st41 ?_
                    by_cases hc42 : (12000 : Int32) < q
                    · refine own_via (T' := T41) (g' := (mkF m 46 #[.val (.ref b), .val (.int (16000 : Int32)), .val (.int (2 : Int32))] [])) (fun t k => XS.icmpYes X41.here hx rfl (pc0 := 31) (pc' := 46) rfl (hb hby d_prog_29_method_4_code_31) rfl (tlt hc42).1 (by decide) (by decide) k) ?_
                      refine own_via (T' := T41) (g' := (mkF m 47 #[.val (.ref b), .val (.int (16000 : Int32)), .val (.int (2 : Int32))] [(.int (16000 : Int32))])) (fun t k => XS.iloadN X41.here hx rfl (hb hby d_prog_29_method_4_code_46) rfl k) ?_
                      exact own_ret (t := .int) X41 hx Bd.returns hlk rfl (Or.inl ⟨rfl, by simp, _, rfl⟩) (hb hby d_prog_29_method_4_code_47) (by decide) (by decide) ⟨congrArg (fun z => some (Value.int z)) (own_ex3 q hc42 hc38).symm, rfl, e41⟩
                    · refine own_via (T' := T41) (g' := (mkF m 34 #[.val (.ref b), .val (.int (16000 : Int32)), .val (.int (2 : Int32))] [])) (fun t k => XS.icmpNo X41.here hx rfl (hb hby d_prog_29_method_4_code_31) rfl (flt hc42).1 k) ?_
                      obtain ⟨T43, X43, e43, st43⟩ := getS2 X41 hx hZ hown (host := "") (Or.inl (hw _ (List.mem_of_getElem? (i := 25) rfl))) Via.refl e41 SR (g := (mkF m 34 #[.val (.ref b), .val (.int (16000 : Int32)), .val (.int (2 : Int32))] [])) rfl (hb hby d_prog_29_method_4_code_34)
                      refine own_via (T' := T43) (g' := (mkF m 37 #[.val (.ref b), .val (.int (16000 : Int32)), .val (.int (2 : Int32))] [(.ref ra)])) st43 ?_
                      refine own_via (T' := T43) (g' := (mkF m 38 #[.val (.ref b), .val (.int (16000 : Int32)), .val (.int (2 : Int32))] [(.int (2 : Int32)), (.ref ra)])) (fun t k => XS.iloadN X43.here hx rfl (hb hby d_prog_29_method_4_code_37) rfl k) ?_
                      refine own_via (T' := T43) (g' := (mkF m 39 #[.val (.ref b), .val (.int (16000 : Int32)), .val (.int (2 : Int32))] [(.int (12000 : Int32))])) (fun t k => X43.iaload hx (j := (2 : Int32)) (v := .int (12000 : Int32)) (by rw [e43]; exact Ar.1) (State.isArrayOf_alike hZ.alike Ar.2.1) Ar.2.2 (inb_of SZ ⟨by decide, by decide⟩) el2 (g := (mkF m 38 #[.val (.ref b), .val (.int (16000 : Int32)), .val (.int (2 : Int32))] [(.int (2 : Int32)), (.ref ra)])) rfl rfl (hb hby d_prog_29_method_4_code_38) t k) ?_
                      refine own_via (T' := T43) (g' := (mkF m 40 #[.val (.ref b), .val (.int (12000 : Int32)), .val (.int (2 : Int32))] [])) (fun t k => XS.istoreN X43.here hx rfl (hb hby d_prog_29_method_4_code_39) rfl (l' := #[.val (.ref b), .val (.int (12000 : Int32)), .val (.int (2 : Int32))]) rfl k) ?_
                      refine own_via (T' := T43) (g' := (mkF m 43 #[.val (.ref b), .val (.int (12000 : Int32)), .val (.int ((2 : Int32) + (-1 : Int32)))] [])) (fun t k => XS.iinc X43.here hx rfl (hb hby d_prog_29_method_4_code_40) rfl (l' := #[.val (.ref b), .val (.int (12000 : Int32)), .val (.int ((2 : Int32) + (-1 : Int32)))]) rfl k) ?_
                      rw [show ((2 : Int32) + (-1 : Int32)) = (1 : Int32) from by decide]
                      refine own_via (T' := T43) (g' := (mkF m 18 #[.val (.ref b), .val (.int (12000 : Int32)), .val (.int (1 : Int32))] [])) (fun t k => XS.goto X43.here hx rfl (pc0 := 43) (pc' := 18) rfl (hb hby d_prog_29_method_4_code_43) (by decide) (by decide) k) ?_
                      refine own_via (T' := T43) (g' := (mkF m 19 #[.val (.ref b), .val (.int (12000 : Int32)), .val (.int (1 : Int32))] [(.int (1 : Int32))])) (fun t k => XS.iloadN X43.here hx rfl (hb hby d_prog_29_method_4_code_18) rfl k) ?_
                      refine own_via (T' := T43) (g' := (mkF m 22 #[.val (.ref b), .val (.int (12000 : Int32)), .val (.int (1 : Int32))] [])) (fun t k => XS.ifNo X43.here hx rfl (hb hby d_prog_29_method_4_code_19) rfl ((if0 _ _).trans (flt (by decide)).1) k) ?_
                      obtain ⟨T44, X44, e44, st44⟩ := getS2 X43 hx hZ hown (host := "") (Or.inl (hw _ (List.mem_of_getElem? (i := 25) rfl))) Via.refl e43 SR (g := (mkF m 22 #[.val (.ref b), .val (.int (12000 : Int32)), .val (.int (1 : Int32))] [])) rfl (hb hby d_prog_29_method_4_code_22)
                      refine own_via (T' := T44) (g' := (mkF m 25 #[.val (.ref b), .val (.int (12000 : Int32)), .val (.int (1 : Int32))] [(.ref ra)])) st44 ?_
                      refine own_via (T' := T44) (g' := (mkF m 26 #[.val (.ref b), .val (.int (12000 : Int32)), .val (.int (1 : Int32))] [(.int (1 : Int32)), (.ref ra)])) (fun t k => XS.iloadN X44.here hx rfl (hb hby d_prog_29_method_4_code_25) rfl k) ?_
                      refine own_via (T' := T44) (g' := (mkF m 27 #[.val (.ref b), .val (.int (12000 : Int32)), .val (.int (1 : Int32))] [(.int (11025 : Int32))])) (fun t k => X44.iaload hx (j := (1 : Int32)) (v := .int (11025 : Int32)) (by rw [e44]; exact Ar.1) (State.isArrayOf_alike hZ.alike Ar.2.1) Ar.2.2 (inb_of SZ ⟨by decide, by decide⟩) el1 (g := (mkF m 26 #[.val (.ref b), .val (.int (12000 : Int32)), .val (.int (1 : Int32))] [(.int (1 : Int32)), (.ref ra)])) rfl rfl (hb hby d_prog_29_method_4_code_26) t k) ?_
                      refine own_via (T' := T44) (g' := (mkF m 28 #[.val (.ref b), .val (.int (12000 : Int32)), .val (.int (1 : Int32))] [(.ref b), (.int (11025 : Int32))])) (fun t k => XS.aloadN X44.here hx rfl (hb hby d_prog_29_method_4_code_27) rfl rfl k) ?_
                      obtain ⟨T45, X45, e45, st45⟩ := getF X44 hx hZ hown (host := "") (Or.inl (hw _ (List.mem_of_getElem? (i := 16) rfl))) Via.refl e44 F (g := (mkF m 28 #[.val (.ref b), .val (.int (12000 : Int32)), .val (.int (1 : Int32))] [(.ref b), (.int (11025 : Int32))])) rfl rfl (hb hby d_prog_29_method_4_code_28)
                      refine own_via (T' := T45) (g' := (mkF m 31 #[.val (.ref b), .val (.int (12000 : Int32)), .val (.int (1 : Int32))] [(.int q), (.int (11025 : Int32))])) st45 ?_
                      by_cases hc46 : (11025 : Int32) < q
                      · refine own_via (T' := T45) (g' := (mkF m 46 #[.val (.ref b), .val (.int (12000 : Int32)), .val (.int (1 : Int32))] [])) (fun t k => XS.icmpYes X45.here hx rfl (pc0 := 31) (pc' := 46) rfl (hb hby d_prog_29_method_4_code_31) rfl (tlt hc46).1 (by decide) (by decide) k) ?_
                        refine own_via (T' := T45) (g' := (mkF m 47 #[.val (.ref b), .val (.int (12000 : Int32)), .val (.int (1 : Int32))] [(.int (12000 : Int32))])) (fun t k => XS.iloadN X45.here hx rfl (hb hby d_prog_29_method_4_code_46) rfl k) ?_
                        exact own_ret (t := .int) X45 hx Bd.returns hlk rfl (Or.inl ⟨rfl, by simp, _, rfl⟩) (hb hby d_prog_29_method_4_code_47) (by decide) (by decide) ⟨congrArg (fun z => some (Value.int z)) (own_ex2 q hc46 hc42).symm, rfl, e45⟩
                      · refine own_via (T' := T45) (g' := (mkF m 34 #[.val (.ref b), .val (.int (12000 : Int32)), .val (.int (1 : Int32))] [])) (fun t k => XS.icmpNo X45.here hx rfl (hb hby d_prog_29_method_4_code_31) rfl (flt hc46).1 k) ?_
                        obtain ⟨T47, X47, e47, st47⟩ := getS2 X45 hx hZ hown (host := "") (Or.inl (hw _ (List.mem_of_getElem? (i := 25) rfl))) Via.refl e45 SR (g := (mkF m 34 #[.val (.ref b), .val (.int (12000 : Int32)), .val (.int (1 : Int32))] [])) rfl (hb hby d_prog_29_method_4_code_34)
                        refine own_via (T' := T47) (g' := (mkF m 37 #[.val (.ref b), .val (.int (12000 : Int32)), .val (.int (1 : Int32))] [(.ref ra)])) st47 ?_
                        refine own_via (T' := T47) (g' := (mkF m 38 #[.val (.ref b), .val (.int (12000 : Int32)), .val (.int (1 : Int32))] [(.int (1 : Int32)), (.ref ra)])) (fun t k => XS.iloadN X47.here hx rfl (hb hby d_prog_29_method_4_code_37) rfl k) ?_
                        refine own_via (T' := T47) (g' := (mkF m 39 #[.val (.ref b), .val (.int (12000 : Int32)), .val (.int (1 : Int32))] [(.int (11025 : Int32))])) (fun t k => X47.iaload hx (j := (1 : Int32)) (v := .int (11025 : Int32)) (by rw [e47]; exact Ar.1) (State.isArrayOf_alike hZ.alike Ar.2.1) Ar.2.2 (inb_of SZ ⟨by decide, by decide⟩) el1 (g := (mkF m 38 #[.val (.ref b), .val (.int (12000 : Int32)), .val (.int (1 : Int32))] [(.int (1 : Int32)), (.ref ra)])) rfl rfl (hb hby d_prog_29_method_4_code_38) t k) ?_
                        refine own_via (T' := T47) (g' := (mkF m 40 #[.val (.ref b), .val (.int (11025 : Int32)), .val (.int (1 : Int32))] [])) (fun t k => XS.istoreN X47.here hx rfl (hb hby d_prog_29_method_4_code_39) rfl (l' := #[.val (.ref b), .val (.int (11025 : Int32)), .val (.int (1 : Int32))]) rfl k) ?_
                        refine own_via (T' := T47) (g' := (mkF m 43 #[.val (.ref b), .val (.int (11025 : Int32)), .val (.int ((1 : Int32) + (-1 : Int32)))] [])) (fun t k => XS.iinc X47.here hx rfl (hb hby d_prog_29_method_4_code_40) rfl (l' := #[.val (.ref b), .val (.int (11025 : Int32)), .val (.int ((1 : Int32) + (-1 : Int32)))]) rfl k) ?_
                        rw [show ((1 : Int32) + (-1 : Int32)) = (0 : Int32) from by decide]
                        refine own_via (T' := T47) (g' := (mkF m 18 #[.val (.ref b), .val (.int (11025 : Int32)), .val (.int (0 : Int32))] [])) (fun t k => XS.goto X47.here hx rfl (pc0 := 43) (pc' := 18) rfl (hb hby d_prog_29_method_4_code_43) (by decide) (by decide) k) ?_
                        refine own_via (T' := T47) (g' := (mkF m 19 #[.val (.ref b), .val (.int (11025 : Int32)), .val (.int (0 : Int32))] [(.int (0 : Int32))])) (fun t k => XS.iloadN X47.here hx rfl (hb hby d_prog_29_method_4_code_18) rfl k) ?_
                        refine own_via (T' := T47) (g' := (mkF m 22 #[.val (.ref b), .val (.int (11025 : Int32)), .val (.int (0 : Int32))] [])) (fun t k => XS.ifNo X47.here hx rfl (hb hby d_prog_29_method_4_code_19) rfl ((if0 _ _).trans (flt (by decide)).1) k) ?_
                        obtain ⟨T48, X48, e48, st48⟩ := getS2 X47 hx hZ hown (host := "") (Or.inl (hw _ (List.mem_of_getElem? (i := 25) rfl))) Via.refl e47 SR (g := (mkF m 22 #[.val (.ref b), .val (.int (11025 : Int32)), .val (.int (0 : Int32))] [])) rfl (hb hby d_prog_29_method_4_code_22)
                        refine own_via (T' := T48) (g' := (mkF m 25 #[.val (.ref b), .val (.int (11025 : Int32)), .val (.int (0 : Int32))] [(.ref ra)])) st48 ?_
                        refine own_via (T' := T48) (g' := (mkF m 26 #[.val (.ref b), .val (.int (11025 : Int32)), .val (.int (0 : Int32))] [(.int (0 : Int32)), (.ref ra)])) (fun t k => XS.iloadN X48.here hx rfl (hb hby d_prog_29_method_4_code_25) rfl k) ?_
                        refine own_via (T' := T48) (g' := (mkF m 27 #[.val (.ref b), .val (.int (11025 : Int32)), .val (.int (0 : Int32))] [(.int (8000 : Int32))])) (fun t k => X48.iaload hx (j := (0 : Int32)) (v := .int (8000 : Int32)) (by rw [e48]; exact Ar.1) (State.isArrayOf_alike hZ.alike Ar.2.1) Ar.2.2 (inb_of SZ ⟨by decide, by decide⟩) el0 (g := (mkF m 26 #[.val (.ref b), .val (.int (11025 : Int32)), .val (.int (0 : Int32))] [(.int (0 : Int32)), (.ref ra)])) rfl rfl (hb hby d_prog_29_method_4_code_26) t k) ?_
                        refine own_via (T' := T48) (g' := (mkF m 28 #[.val (.ref b), .val (.int (11025 : Int32)), .val (.int (0 : Int32))] [(.ref b), (.int (8000 : Int32))])) (fun t k => XS.aloadN X48.here hx rfl (hb hby d_prog_29_method_4_code_27) rfl rfl k) ?_
                        obtain ⟨T49, X49, e49, st49⟩ := getF X48 hx hZ hown (host := "") (Or.inl (hw _ (List.mem_of_getElem? (i := 16) rfl))) Via.refl e48 F (g := (mkF m 28 #[.val (.ref b), .val (.int (11025 : Int32)), .val (.int (0 : Int32))] [(.ref b), (.int (8000 : Int32))])) rfl rfl (hb hby d_prog_29_method_4_code_28)
                        refine own_via (T' := T49) (g' := (mkF m 31 #[.val (.ref b), .val (.int (11025 : Int32)), .val (.int (0 : Int32))] [(.int q), (.int (8000 : Int32))])) st49 ?_
                        by_cases hc50 : (8000 : Int32) < q
                        · refine own_via (T' := T49) (g' := (mkF m 46 #[.val (.ref b), .val (.int (11025 : Int32)), .val (.int (0 : Int32))] [])) (fun t k => XS.icmpYes X49.here hx rfl (pc0 := 31) (pc' := 46) rfl (hb hby d_prog_29_method_4_code_31) rfl (tlt hc50).1 (by decide) (by decide) k) ?_
                          refine own_via (T' := T49) (g' := (mkF m 47 #[.val (.ref b), .val (.int (11025 : Int32)), .val (.int (0 : Int32))] [(.int (11025 : Int32))])) (fun t k => XS.iloadN X49.here hx rfl (hb hby d_prog_29_method_4_code_46) rfl k) ?_
                          exact own_ret (t := .int) X49 hx Bd.returns hlk rfl (Or.inl ⟨rfl, by simp, _, rfl⟩) (hb hby d_prog_29_method_4_code_47) (by decide) (by decide) ⟨congrArg (fun z => some (Value.int z)) (own_ex1 q hc50 hc46).symm, rfl, e49⟩
                        · refine own_via (T' := T49) (g' := (mkF m 34 #[.val (.ref b), .val (.int (11025 : Int32)), .val (.int (0 : Int32))] [])) (fun t k => XS.icmpNo X49.here hx rfl (hb hby d_prog_29_method_4_code_31) rfl (flt hc50).1 k) ?_
                          obtain ⟨T51, X51, e51, st51⟩ := getS2 X49 hx hZ hown (host := "") (Or.inl (hw _ (List.mem_of_getElem? (i := 25) rfl))) Via.refl e49 SR (g := (mkF m 34 #[.val (.ref b), .val (.int (11025 : Int32)), .val (.int (0 : Int32))] [])) rfl (hb hby d_prog_29_method_4_code_34)
                          refine own_via (T' := T51) (g' := (mkF m 37 #[.val (.ref b), .val (.int (11025 : Int32)), .val (.int (0 : Int32))] [(.ref ra)])) st51 ?_
                          refine own_via (T' := T51) (g' := (mkF m 38 #[.val (.ref b), .val (.int (11025 : Int32)), .val (.int (0 : Int32))] [(.int (0 : Int32)), (.ref ra)])) (fun t k => XS.iloadN X51.here hx rfl (hb hby d_prog_29_method_4_code_37) rfl k) ?_
                          refine own_via (T' := T51) (g' := (mkF m 39 #[.val (.ref b), .val (.int (11025 : Int32)), .val (.int (0 : Int32))] [(.int (8000 : Int32))])) (fun t k => X51.iaload hx (j := (0 : Int32)) (v := .int (8000 : Int32)) (by rw [e51]; exact Ar.1) (State.isArrayOf_alike hZ.alike Ar.2.1) Ar.2.2 (inb_of SZ ⟨by decide, by decide⟩) el0 (g := (mkF m 38 #[.val (.ref b), .val (.int (11025 : Int32)), .val (.int (0 : Int32))] [(.int (0 : Int32)), (.ref ra)])) rfl rfl (hb hby d_prog_29_method_4_code_38) t k) ?_
                          refine own_via (T' := T51) (g' := (mkF m 40 #[.val (.ref b), .val (.int (8000 : Int32)), .val (.int (0 : Int32))] [])) (fun t k => XS.istoreN X51.here hx rfl (hb hby d_prog_29_method_4_code_39) rfl (l' := #[.val (.ref b), .val (.int (8000 : Int32)), .val (.int (0 : Int32))]) rfl k) ?_
                          refine own_via (T' := T51) (g' := (mkF m 43 #[.val (.ref b), .val (.int (8000 : Int32)), .val (.int ((0 : Int32) + (-1 : Int32)))] [])) (fun t k => XS.iinc X51.here hx rfl (hb hby d_prog_29_method_4_code_40) rfl (l' := #[.val (.ref b), .val (.int (8000 : Int32)), .val (.int ((0 : Int32) + (-1 : Int32)))]) rfl k) ?_
                          rw [show ((0 : Int32) + (-1 : Int32)) = (-1 : Int32) from by decide]
                          refine own_via (T' := T51) (g' := (mkF m 18 #[.val (.ref b), .val (.int (8000 : Int32)), .val (.int (-1 : Int32))] [])) (fun t k => XS.goto X51.here hx rfl (pc0 := 43) (pc' := 18) rfl (hb hby d_prog_29_method_4_code_43) (by decide) (by decide) k) ?_
                          refine own_via (T' := T51) (g' := (mkF m 19 #[.val (.ref b), .val (.int (8000 : Int32)), .val (.int (-1 : Int32))] [(.int (-1 : Int32))])) (fun t k => XS.iloadN X51.here hx rfl (hb hby d_prog_29_method_4_code_18) rfl k) ?_
                          refine own_via (T' := T51) (g' := (mkF m 46 #[.val (.ref b), .val (.int (8000 : Int32)), .val (.int (-1 : Int32))] [])) (fun t k => XS.ifYes X51.here hx rfl (pc0 := 19) (pc' := 46) rfl (hb hby d_prog_29_method_4_code_19) rfl ((if0 _ _).trans (tlt (by decide)).1) (by decide) (by decide) k) ?_
                          refine own_via (T' := T51) (g' := (mkF m 47 #[.val (.ref b), .val (.int (8000 : Int32)), .val (.int (-1 : Int32))] [(.int (8000 : Int32))])) (fun t k => XS.iloadN X51.here hx rfl (hb hby d_prog_29_method_4_code_46) rfl k) ?_
                          exact own_ret (t := .int) X51 hx Bd.returns hlk rfl (Or.inl ⟨rfl, by simp, _, rfl⟩) (hb hby d_prog_29_method_4_code_47) (by decide) (by decide) ⟨congrArg (fun z => some (Value.int z)) (own_ex0 q hc50).symm, rfl, e51⟩
theorem pd_157 : parseMethodDescriptor "(III)V" = some ⟨[.int, .int, .int], none⟩ := by decide +kernel
theorem pd_158 : parseMethodDescriptor "()I" = some ⟨[], some .int⟩ := by decide +kernel
theorem pd_159 : parseMethodDescriptor "(I)I" = some ⟨[.int], some .int⟩ := by decide +kernel
set_option maxRecDepth 65536 in
set_option maxHeartbeats 40000000 in
theorem own_c0 (l : Launch) (Z : State) (a0 : Array Value) (hw : ∀ d ∈ tables_1, d.before a0 Z = true) (p1 p2 p3 p4 p5 : Int32) (ra : Addr) (cl : Cell) (h0 : Heap) (SR : Sta Z h0 "com/example/lazytail/lazytail/media/SourceAudio" "AAC_RATES" "[I" (.ref ra)) (Ar : Arr Z h0 ra cl .int) (SZ : cl.slots.size = (12 : Int32).toNatClampNeg) (el0 : cl.slots[((0 : Int32)).toNatClampNeg]? = some (.int (8000 : Int32))) (el1 : cl.slots[((1 : Int32)).toNatClampNeg]? = some (.int (11025 : Int32))) (el2 : cl.slots[((2 : Int32)).toNatClampNeg]? = some (.int (12000 : Int32))) (el3 : cl.slots[((3 : Int32)).toNatClampNeg]? = some (.int (16000 : Int32))) (el4 : cl.slots[((4 : Int32)).toNatClampNeg]? = some (.int (22050 : Int32))) (el5 : cl.slots[((5 : Int32)).toNatClampNeg]? = some (.int (24000 : Int32))) (el6 : cl.slots[((6 : Int32)).toNatClampNeg]? = some (.int (32000 : Int32))) (el7 : cl.slots[((7 : Int32)).toNatClampNeg]? = some (.int (44100 : Int32))) (el8 : cl.slots[((8 : Int32)).toNatClampNeg]? = some (.int (48000 : Int32))) (el9 : cl.slots[((9 : Int32)).toNatClampNeg]? = some (.int (64000 : Int32))) (el10 : cl.slots[((10 : Int32)).toNatClampNeg]? = some (.int (88200 : Int32))) (el11 : cl.slots[((11 : Int32)).toNatClampNeg]? = some (.int (96000 : Int32))) :
    own_Met l Z x (Jvm.Cond.code x code maxLocals ret :: tables_1) room_1 #[(.int p1), (.int p2), (.int p3), (.int p4), (.int p5)] h0 (own_F (some (.int 1)) h0.size) := by
  refine MetFree.of_bodySF (plainFor_of_name pn_2) hisR ?_
  intro p e s m args below meth c s₁ Bd hml0 hP hK
  obtain ⟨rfl, hZ, hh⟩ := hP
  have hx := Bd.exec
  have hby := Bd.bytes
  have hml : c.maxLocals = 8 := hml0
  have hown : s.vm.findClass "com/example/lazytail/lazytail/media/SourceAudioRenditionRatePinLaw" = some m.cls := findClass_of_methodNamed Bd.named
  have hnm := (name_of_methodNamed Bd.named Bd.method).1
  have hlk : meth.locks = false := BodyLoose.notSynchronized Bd
  have X0 : Stand p l e room_1 s m #[(.int p1), (.int p2), (.int p3), (.int p4), (.int p5)] below meth c s₁ [] 0 0 := Stand.of_body Bd
  have e0 : s₁.heap = h0 := by rw [← hh, Bd.state]; rfl
  show own_Go p e below (own_End s (own_F (some (.int 1)) h0.size) 16 128) s₁ (entryFrame m #[(.int p1), (.int p2), (.int p3), (.int p4), (.int p5)] maxLocals)
  refine own_start (g' := mkF m 0 #[.val (.int p1), .val (.int p2), .val (.int p3), .val (.int p4), .val (.int p5), .unset, .unset, .unset] []) (by first | rfl | (simp [entryFrame, mkF, argsToLocals, Value.category, maxLocals]; done)) ?_
  refine own_via (T' := s₁) (g' := (mkF m 1 #[.val (.int p1), .val (.int p2), .val (.int p3), .val (.int p4), .val (.int p5), .unset, .unset, .unset] [(.int p1)])) (fun t k => XS.iloadN X0.here hx rfl (hb hby at_0) rfl k) ?_
  refine own_via (T' := s₁) (g' := (mkF m 2 #[.val (.int p1), .val (.int p2), .val (.int p3), .val (.int p4), .val (.int p5), .unset, .unset, .unset] [(.int (3 : Int32)), (.int p1)])) (fun t k => XS.iconst X0.here hx rfl (hb hby at_1) k) ?_
  refine own_via (T' := s₁) (g' := (mkF m 3 #[.val (.int p1), .val (.int p2), .val (.int p3), .val (.int p4), .val (.int p5), .unset, .unset, .unset] [(.int (p1 &&& (3 : Int32)))])) (fun t k => XS.iand X0.here hx rfl (hb hby at_2) rfl k) ?_
  have K : Keep h0 h0 [] := Keep.refl _ _
  have N : Fr h0.size [] := Fr.nil _
  generalize hmm : (p1 &&& (3 : Int32)) = mm
  refine own_join (α := Int32) X0 e0 (g := fun ss => (mkF m 53 #[.val (.int p1), .val (.int p2), .val (.int p3), .val (.int p4), .val (.int p5), .val (.int mm), .val (.int ss), .unset] [])) (fun ss TJ1 XJ1 eJ1 => ?_) (fun J1 => ?_)
  · skip
    show own_Go p e below _ TJ1 (mkF m 53 #[.val (.int p1), .val (.int p2), .val (.int p3), .val (.int p4), .val (.int p5), .val (.int mm), .val (.int ss), .unset] [])
    obtain ⟨T2, h2, X2, e2, E2, A2, D2, -, st2⟩ := newO XJ1 hx hZ hown (hw _ (List.mem_of_getElem? (i := 0) rfl)) (hw _ (List.mem_of_getElem? (i := 1) rfl)) (hw _ (List.mem_of_getElem? (i := 2) rfl)) eJ1 (g := (mkF m 53 #[.val (.int p1), .val (.int p2), .val (.int p3), .val (.int p4), .val (.int p5), .val (.int mm), .val (.int ss), .unset] [])) rfl (hb hby at_53) (by decide) (by decide)
    obtain ⟨b2, g2⟩ : ∃ z, z = h0.size := ⟨_, rfl⟩
    rw [← g2] at A2 D2 st2
    have g_b2 : h0.size ≤ b2 := by rw [g2]; exact K.1
    have sz_b2 := g_b2
    have K := K.ext E2
    have E_b2 := A2
    have F_stream_b2 : Fld Z h2 b2 "com/example/lazytail/lazytail/media/SourceAudio" "stream" "I" (.int (0 : Int32)) := D2 (Or.inr (hw _ (List.mem_of_getElem? (i := 15) rfl))) (ty := .int) (by decide)
    have F_sampleRate_b2 : Fld Z h2 b2 "com/example/lazytail/lazytail/media/SourceAudio" "sampleRate" "I" (.int (0 : Int32)) := D2 (Or.inr (hw _ (List.mem_of_getElem? (i := 17) rfl))) (ty := .int) (by decide)
    have F_channels_b2 : Fld Z h2 b2 "com/example/lazytail/lazytail/media/SourceAudio" "channels" "I" (.int (0 : Int32)) := D2 (Or.inr (hw _ (List.mem_of_getElem? (i := 19) rfl))) (ty := .int) (by decide)
    refine own_via (T' := T2) (g' := (mkF m 56 #[.val (.int p1), .val (.int p2), .val (.int p3), .val (.int p4), .val (.int p5), .val (.int mm), .val (.int ss), .unset] [(.ref b2)])) st2 ?_
    refine own_via (T' := T2) (g' := (mkF m 57 #[.val (.int p1), .val (.int p2), .val (.int p3), .val (.int p4), .val (.int p5), .val (.int mm), .val (.int ss), .unset] [(.ref b2), (.ref b2)])) (fun t k => XS.dup X2.here hx rfl (hb hby at_56) rfl rfl k) ?_
    refine own_via (T' := T2) (g' := (mkF m 58 #[.val (.int p1), .val (.int p2), .val (.int p3), .val (.int p4), .val (.int p5), .val (.int mm), .val (.int ss), .unset] [(.int p4), (.ref b2), (.ref b2)])) (fun t k => XS.iloadN X2.here hx rfl (hb hby at_57) rfl k) ?_
    refine own_via (T' := T2) (g' := (mkF m 60 #[.val (.int p1), .val (.int p2), .val (.int p3), .val (.int p4), .val (.int p5), .val (.int mm), .val (.int ss), .unset] [(.int ss), (.int p4), (.ref b2), (.ref b2)])) (fun t k => XS.iload X2.here hx rfl (hb hby at_58) rfl k) ?_
    refine own_via (T' := T2) (g' := (mkF m 62 #[.val (.int p1), .val (.int p2), .val (.int p3), .val (.int p4), .val (.int p5), .val (.int mm), .val (.int ss), .unset] [(.int p5), (.int ss), (.int p4), (.ref b2), (.ref b2)])) (fun t k => XS.iload X2.here hx rfl (hb hby at_60) rfl k) ?_
    obtain ⟨v3, T3, Lc3, X3, hQ3, st3⟩ := own_callIQ (W := 1) (y := (⟨"com/example/lazytail/lazytail/media/SourceAudio", "<init>", "(III)V"⟩ : MethodName)) X2 hx hZ rfl hown (hw _ (List.mem_of_getElem? (i := 3) rfl)) (hw _ (List.mem_of_getElem? (i := 4) rfl)) (hw _ (List.mem_of_getElem? (i := 2) rfl)) (hw _ (List.mem_of_getElem? (i := 5) rfl)) (by decide) (own_cs l Z a0 hw b2 p4 ss p5 (.int (0 : Int32)) (.int (0 : Int32)) (.int (0 : Int32)) h0.size h2 g_b2 E_b2 F_stream_b2 F_sampleRate_b2 F_channels_b2) e2 (by decide) (by decide) (by decide) (by decide) (g := (mkF m 62 #[.val (.int p1), .val (.int p2), .val (.int p3), .val (.int p4), .val (.int p5), .val (.int mm), .val (.int ss), .unset] [(.int p5), (.int ss), (.int p4), (.ref b2), (.ref b2)])) rfl (by rw [hml]; rfl) (argsL := [(.int p4), (.int ss), (.int p5)]) (rest := [(.ref b2)]) (lenOf pd_157 rfl) rfl (by show 2 * 0 + _ ≤ _; exact Nat.le_of_eq rfl) (hb hby at_62) rfl
    obtain ⟨rfl, N3, K3, E3, F3⟩ := hQ3
    have K := K.trans K3 (allS (Or.inr sz_b2) all0)
    have N := Fr.app N N3
    have E_b2 := E_b2.keep K3
    have F_sampleRate_b2 := F3
    refine own_via (T' := T3) (g' := (mkF m 65 #[.val (.int p1), .val (.int p2), .val (.int p3), .val (.int p4), .val (.int p5), .val (.int mm), .val (.int ss), .unset] [(.ref b2)])) st3 ?_
    refine own_via (T' := T3) (g' := (mkF m 67 #[.val (.int p1), .val (.int p2), .val (.int p3), .val (.int p4), .val (.int p5), .val (.int mm), .val (.int ss), .val (.ref b2)] [])) (fun t k => XS.astore X3.here hx rfl (hb hby at_65) rfl rfl (l' := #[.val (.int p1), .val (.int p2), .val (.int p3), .val (.int p4), .val (.int p5), .val (.int mm), .val (.int ss), .val (.ref b2)]) rfl k) ?_
    refine own_via (T' := T3) (g' := (mkF m 69 #[.val (.int p1), .val (.int p2), .val (.int p3), .val (.int p4), .val (.int p5), .val (.int mm), .val (.int ss), .val (.ref b2)] [(.ref b2)])) (fun t k => XS.aload X3.here hx rfl (hb hby at_67) rfl rfl k) ?_
    obtain ⟨T4, X4, e4, st4⟩ := own_callV (W := 0) (r := (some (.int (own_ex ss)))) (y := (⟨"com/example/lazytail/lazytail/media/SourceAudio", "renditionRate", "()I"⟩ : MethodName)) (z := (⟨"com/example/lazytail/lazytail/media/SourceAudio", "renditionRate", "()I"⟩ : MethodName)) X3 hx hZ hown (hw _ (List.mem_of_getElem? (i := 20) rfl)) (hw _ (List.mem_of_getElem? (i := 21) rfl)) (notFace_of_selects (args := #[]) (mvT hZ (hw _ (List.mem_of_getElem? (i := 23) rfl)))) (hw _ (List.mem_of_getElem? (i := 23) rfl)) (hw _ (List.mem_of_getElem? (i := 22) rfl)) (by decide) (hw _ (List.mem_of_getElem? (i := 24) rfl)) (hw _ (List.mem_of_getElem? (i := 2) rfl)) (own_rr l Z a0 hw b2 ra ss cl T3.heap F_sampleRate_b2 (own_staK SR K) (own_arrK Ar K) SZ el0 el1 el2 el3 el4 el5 el6 el7 el8 el9 el10 el11) rfl E_b2 (by decide) (by decide) (by decide) (by decide) (g := (mkF m 69 #[.val (.int p1), .val (.int p2), .val (.int p3), .val (.int p4), .val (.int p5), .val (.int mm), .val (.int ss), .val (.ref b2)] [(.ref b2)])) rfl (by rw [hml]; rfl) (argsL := []) (rest := []) (lenOf pd_158 rfl) rfl (by show 2 * 0 + _ ≤ _; exact Nat.le_of_eq rfl) (hb hby at_69) rfl
    refine own_via (T' := T4) (g' := (mkF m 72 #[.val (.int p1), .val (.int p2), .val (.int p3), .val (.int p4), .val (.int p5), .val (.int mm), .val (.int ss), .val (.ref b2)] [(.int (own_ex ss))])) st4 ?_
    refine own_via (T' := T4) (g' := (mkF m 74 #[.val (.int p1), .val (.int p2), .val (.int p3), .val (.int p4), .val (.int p5), .val (.int mm), .val (.int ss), .val (.ref b2)] [(.int ss), (.int (own_ex ss))])) (fun t k => XS.iload X4.here hx rfl (hb hby at_72) rfl k) ?_
    obtain ⟨T5, X5, e5, st5⟩ := own_callS (W := 1) (r := (some (.int (own_ex ss)))) (y := (⟨"com/example/lazytail/lazytail/media/SourceAudioRenditionRatePinLaw", "expected", "(I)I"⟩ : MethodName)) X4 hx hZ hown (hw _ (List.mem_of_getElem? (i := 27) rfl)) (hw _ (List.mem_of_getElem? (i := 28) rfl)) (hw _ (List.mem_of_getElem? (i := 29) rfl)) (hw _ (List.mem_of_getElem? (i := 30) rfl)) (by decide) (own_e l Z a0 hw ss T3.heap) e4 (by decide) (by decide) (by decide) (by decide) (g := (mkF m 74 #[.val (.int p1), .val (.int p2), .val (.int p3), .val (.int p4), .val (.int p5), .val (.int mm), .val (.int ss), .val (.ref b2)] [(.int ss), (.int (own_ex ss))])) rfl (by rw [hml]; rfl) (argsL := [(.int ss)]) (rest := [(.int (own_ex ss))]) (lenOf pd_159 rfl) rfl (by show 2 * 0 + _ ≤ _; exact Nat.le_of_eq rfl) (hb hby at_74) rfl
    refine own_via (T' := T5) (g' := (mkF m 77 #[.val (.int p1), .val (.int p2), .val (.int p3), .val (.int p4), .val (.int p5), .val (.int mm), .val (.int ss), .val (.ref b2)] [(.int (own_ex ss)), (.int (own_ex ss))])) st5 ?_
    refine own_via (T' := T5) (g' := (mkF m 80 #[.val (.int p1), .val (.int p2), .val (.int p3), .val (.int p4), .val (.int p5), .val (.int mm), .val (.int ss), .val (.ref b2)] [])) (fun t k => XS.icmpNo X5.here hx rfl (hb hby at_77) rfl (teq rfl).2 k) ?_
    refine own_via (T' := T5) (g' := (mkF m 81 #[.val (.int p1), .val (.int p2), .val (.int p3), .val (.int p4), .val (.int p5), .val (.int mm), .val (.int ss), .val (.ref b2)] [(.int (1 : Int32))])) (fun t k => XS.iconst X5.here hx rfl (hb hby at_80) k) ?_
    refine own_via (T' := T5) (g' := (mkF m 85 #[.val (.int p1), .val (.int p2), .val (.int p3), .val (.int p4), .val (.int p5), .val (.int mm), .val (.int ss), .val (.ref b2)] [(.int (1 : Int32))])) (fun t k => XS.goto X5.here hx rfl (pc0 := 81) (pc' := 85) rfl (hb hby at_81) (by decide) (by decide) k) ?_
    exact own_ret (t := .boolean) X5 hx Bd.returns hlk rfl (Or.inl ⟨rfl, by simp, _, rfl⟩) (hb hby at_85) (by decide) (by decide) ⟨rfl, N⟩
  · refine own_via (T' := s₁) (g' := (mkF m 5 #[.val (.int p1), .val (.int p2), .val (.int p3), .val (.int p4), .val (.int p5), .val (.int mm), .unset, .unset] [])) (fun t k => XS.istore X0.here hx rfl (hb hby at_3) rfl (l' := #[.val (.int p1), .val (.int p2), .val (.int p3), .val (.int p4), .val (.int p5), .val (.int mm), .unset, .unset]) rfl k) ?_
    refine own_via (T' := s₁) (g' := (mkF m 7 #[.val (.int p1), .val (.int p2), .val (.int p3), .val (.int p4), .val (.int p5), .val (.int mm), .unset, .unset] [(.int mm)])) (fun t k => XS.iload X0.here hx rfl (hb hby at_5) rfl k) ?_
    by_cases hc6 : mm = (0 : Int32)
    · refine own_via (T' := s₁) (g' := (mkF m 10 #[.val (.int p1), .val (.int p2), .val (.int p3), .val (.int p4), .val (.int p5), .val (.int mm), .unset, .unset] [])) (fun t k => XS.ifNo X0.here hx rfl (hb hby at_7) rfl ((if0 _ _).trans (teq hc6).2) k) ?_
      refine own_via (T' := s₁) (g' := (mkF m 11 #[.val (.int p1), .val (.int p2), .val (.int p3), .val (.int p4), .val (.int p5), .val (.int mm), .unset, .unset] [(.int p2)])) (fun t k => XS.iloadN X0.here hx rfl (hb hby at_10) rfl k) ?_
      refine own_via (T' := s₁) (g' := (mkF m 13 #[.val (.int p1), .val (.int p2), .val (.int p3), .val (.int p4), .val (.int p5), .val (.int mm), .val (.int p2), .unset] [])) (fun t k => XS.istore X0.here hx rfl (hb hby at_11) rfl (l' := #[.val (.int p1), .val (.int p2), .val (.int p3), .val (.int p4), .val (.int p5), .val (.int mm), .val (.int p2), .unset]) rfl k) ?_
      refine own_via (T' := s₁) (g' := (mkF m 53 #[.val (.int p1), .val (.int p2), .val (.int p3), .val (.int p4), .val (.int p5), .val (.int mm), .val (.int p2), .unset] [])) (fun t k => XS.goto X0.here hx rfl (pc0 := 13) (pc' := 53) rfl (hb hby at_13) (by decide) (by decide) k) ?_
      exact J1 p2 s₁ X0 e0
    · refine own_via (T' := s₁) (g' := (mkF m 16 #[.val (.int p1), .val (.int p2), .val (.int p3), .val (.int p4), .val (.int p5), .val (.int mm), .unset, .unset] [])) (fun t k => XS.ifYes X0.here hx rfl (pc0 := 7) (pc' := 16) rfl (hb hby at_7) rfl ((if0 _ _).trans (feq hc6).2) (by decide) (by decide) k) ?_
      refine own_via (T' := s₁) (g' := (mkF m 18 #[.val (.int p1), .val (.int p2), .val (.int p3), .val (.int p4), .val (.int p5), .val (.int mm), .unset, .unset] [(.int mm)])) (fun t k => XS.iload X0.here hx rfl (hb hby at_16) rfl k) ?_
      refine own_via (T' := s₁) (g' := (mkF m 19 #[.val (.int p1), .val (.int p2), .val (.int p3), .val (.int p4), .val (.int p5), .val (.int mm), .unset, .unset] [(.int (1 : Int32)), (.int mm)])) (fun t k => XS.iconst X0.here hx rfl (hb hby at_18) k) ?_
      by_cases hc7 : mm = (1 : Int32)
      · refine own_via (T' := s₁) (g' := (mkF m 22 #[.val (.int p1), .val (.int p2), .val (.int p3), .val (.int p4), .val (.int p5), .val (.int mm), .unset, .unset] [])) (fun t k => XS.icmpNo X0.here hx rfl (hb hby at_19) rfl (teq hc7).2 k) ?_
        refine own_via (T' := s₁) (g' := (mkF m 23 #[.val (.int p1), .val (.int p2), .val (.int p3), .val (.int p4), .val (.int p5), .val (.int mm), .unset, .unset] [(.int p2)])) (fun t k => XS.iloadN X0.here hx rfl (hb hby at_22) rfl k) ?_
        refine own_via (T' := s₁) (g' := (mkF m 25 #[.val (.int p1), .val (.int p2), .val (.int p3), .val (.int p4), .val (.int p5), .val (.int mm), .unset, .unset] [(.int (2147483647 : Int32)), (.int p2)])) (fun t k => Stand.ldcI (g := (mkF m 23 #[.val (.int p1), .val (.int p2), .val (.int p3), .val (.int p4), .val (.int p5), .val (.int mm), .unset, .unset] [(.int p2)])) X0 hx hown (mvT hZ (hw _ (List.mem_of_getElem? (i := 31) rfl))) rfl (hb hby at_23) k) ?_
        refine own_via (T' := s₁) (g' := (mkF m 26 #[.val (.int p1), .val (.int p2), .val (.int p3), .val (.int p4), .val (.int p5), .val (.int mm), .unset, .unset] [(.int (p2 &&& (2147483647 : Int32)))])) (fun t k => XS.iand X0.here hx rfl (hb hby at_25) rfl k) ?_
        refine own_via (T' := s₁) (g' := (mkF m 28 #[.val (.int p1), .val (.int p2), .val (.int p3), .val (.int p4), .val (.int p5), .val (.int mm), .unset, .unset] [(.int (100001 : Int32)), (.int (p2 &&& (2147483647 : Int32)))])) (fun t k => Stand.ldcI (g := (mkF m 26 #[.val (.int p1), .val (.int p2), .val (.int p3), .val (.int p4), .val (.int p5), .val (.int mm), .unset, .unset] [(.int (p2 &&& (2147483647 : Int32)))])) X0 hx hown (mvT hZ (hw _ (List.mem_of_getElem? (i := 40) rfl))) rfl (hb hby at_26) k) ?_
        refine own_via (T' := s₁) (g' := (mkF m 29 #[.val (.int p1), .val (.int p2), .val (.int p3), .val (.int p4), .val (.int p5), .val (.int mm), .unset, .unset] [(.int ((p2 &&& (2147483647 : Int32)) % (100001 : Int32)))])) (fun t k => iremM X0 hx rfl (hb hby at_28) rfl (by decide) k) ?_
        refine own_via (T' := s₁) (g' := (mkF m 31 #[.val (.int p1), .val (.int p2), .val (.int p3), .val (.int p4), .val (.int p5), .val (.int mm), .val (.int ((p2 &&& (2147483647 : Int32)) % (100001 : Int32))), .unset] [])) (fun t k => XS.istore X0.here hx rfl (hb hby at_29) rfl (l' := #[.val (.int p1), .val (.int p2), .val (.int p3), .val (.int p4), .val (.int p5), .val (.int mm), .val (.int ((p2 &&& (2147483647 : Int32)) % (100001 : Int32))), .unset]) rfl k) ?_
        refine own_via (T' := s₁) (g' := (mkF m 53 #[.val (.int p1), .val (.int p2), .val (.int p3), .val (.int p4), .val (.int p5), .val (.int mm), .val (.int ((p2 &&& (2147483647 : Int32)) % (100001 : Int32))), .unset] [])) (fun t k => XS.goto X0.here hx rfl (pc0 := 31) (pc' := 53) rfl (hb hby at_31) (by decide) (by decide) k) ?_
        exact J1 ((p2 &&& (2147483647 : Int32)) % (100001 : Int32)) s₁ X0 e0
      · refine own_via (T' := s₁) (g' := (mkF m 34 #[.val (.int p1), .val (.int p2), .val (.int p3), .val (.int p4), .val (.int p5), .val (.int mm), .unset, .unset] [])) (fun t k => XS.icmpYes X0.here hx rfl (pc0 := 19) (pc' := 34) rfl (hb hby at_19) rfl (feq hc7).2 (by decide) (by decide) k) ?_
        refine own_via (T' := s₁) (g' := (mkF m 35 #[.val (.int p1), .val (.int p2), .val (.int p3), .val (.int p4), .val (.int p5), .val (.int mm), .unset, .unset] [(.int p2)])) (fun t k => XS.iloadN X0.here hx rfl (hb hby at_34) rfl k) ?_
        refine own_via (T' := s₁) (g' := (mkF m 37 #[.val (.int p1), .val (.int p2), .val (.int p3), .val (.int p4), .val (.int p5), .val (.int mm), .unset, .unset] [(.int (2147483647 : Int32)), (.int p2)])) (fun t k => Stand.ldcI (g := (mkF m 35 #[.val (.int p1), .val (.int p2), .val (.int p3), .val (.int p4), .val (.int p5), .val (.int mm), .unset, .unset] [(.int p2)])) X0 hx hown (mvT hZ (hw _ (List.mem_of_getElem? (i := 31) rfl))) rfl (hb hby at_35) k) ?_
        refine own_via (T' := s₁) (g' := (mkF m 38 #[.val (.int p1), .val (.int p2), .val (.int p3), .val (.int p4), .val (.int p5), .val (.int mm), .unset, .unset] [(.int (p2 &&& (2147483647 : Int32)))])) (fun t k => XS.iand X0.here hx rfl (hb hby at_37) rfl k) ?_
        refine own_via (T' := s₁) (g' := (mkF m 40 #[.val (.int p1), .val (.int p2), .val (.int p3), .val (.int p4), .val (.int p5), .val (.int mm), .unset, .unset] [(.int (12 : Int32)), (.int (p2 &&& (2147483647 : Int32)))])) (fun t k => XS.bipush X0.here hx rfl (hb hby at_38) k) ?_
        refine own_via (T' := s₁) (g' := (mkF m 41 #[.val (.int p1), .val (.int p2), .val (.int p3), .val (.int p4), .val (.int p5), .val (.int mm), .unset, .unset] [(.int ((p2 &&& (2147483647 : Int32)) % (12 : Int32)))])) (fun t k => iremM X0 hx rfl (hb hby at_40) rfl (by decide) k) ?_
        obtain ⟨T8, X8, e8, st8⟩ := own_callS (W := 0) (r := (some (.int (own_rate ((p2 &&& (2147483647 : Int32)) % (12 : Int32)))))) (y := (⟨"com/example/lazytail/lazytail/media/SourceAudioRenditionRatePinLaw", "rateAt", "(I)I"⟩ : MethodName)) X0 hx hZ hown (hw _ (List.mem_of_getElem? (i := 32) rfl)) (hw _ (List.mem_of_getElem? (i := 33) rfl)) (hw _ (List.mem_of_getElem? (i := 29) rfl)) (hw _ (List.mem_of_getElem? (i := 34) rfl)) (by decide) (own_ra l Z a0 hw ((p2 &&& (2147483647 : Int32)) % (12 : Int32)) h0) e0 (by decide) (by decide) (by decide) (by decide) (g := (mkF m 41 #[.val (.int p1), .val (.int p2), .val (.int p3), .val (.int p4), .val (.int p5), .val (.int mm), .unset, .unset] [(.int ((p2 &&& (2147483647 : Int32)) % (12 : Int32)))])) rfl (by rw [hml]; rfl) (argsL := [(.int ((p2 &&& (2147483647 : Int32)) % (12 : Int32)))]) (rest := []) (lenOf pd_159 rfl) rfl (by show 2 * 0 + _ ≤ _; exact Nat.le_of_eq rfl) (hb hby at_41) rfl
        refine own_via (T' := T8) (g' := (mkF m 44 #[.val (.int p1), .val (.int p2), .val (.int p3), .val (.int p4), .val (.int p5), .val (.int mm), .unset, .unset] [(.int (own_rate ((p2 &&& (2147483647 : Int32)) % (12 : Int32))))])) st8 ?_
        refine own_via (T' := T8) (g' := (mkF m 45 #[.val (.int p1), .val (.int p2), .val (.int p3), .val (.int p4), .val (.int p5), .val (.int mm), .unset, .unset] [(.int p3), (.int (own_rate ((p2 &&& (2147483647 : Int32)) % (12 : Int32))))])) (fun t k => XS.iloadN X8.here hx rfl (hb hby at_44) rfl k) ?_
        refine own_via (T' := T8) (g' := (mkF m 47 #[.val (.int p1), .val (.int p2), .val (.int p3), .val (.int p4), .val (.int p5), .val (.int mm), .unset, .unset] [(.int (7 : Int32)), (.int p3), (.int (own_rate ((p2 &&& (2147483647 : Int32)) % (12 : Int32))))])) (fun t k => XS.bipush X8.here hx rfl (hb hby at_45) k) ?_
        refine own_via (T' := T8) (g' := (mkF m 48 #[.val (.int p1), .val (.int p2), .val (.int p3), .val (.int p4), .val (.int p5), .val (.int mm), .unset, .unset] [(.int (p3 &&& (7 : Int32))), (.int (own_rate ((p2 &&& (2147483647 : Int32)) % (12 : Int32))))])) (fun t k => XS.iand X8.here hx rfl (hb hby at_47) rfl k) ?_
        refine own_via (T' := T8) (g' := (mkF m 49 #[.val (.int p1), .val (.int p2), .val (.int p3), .val (.int p4), .val (.int p5), .val (.int mm), .unset, .unset] [(.int (3 : Int32)), (.int (p3 &&& (7 : Int32))), (.int (own_rate ((p2 &&& (2147483647 : Int32)) % (12 : Int32))))])) (fun t k => XS.iconst X8.here hx rfl (hb hby at_48) k) ?_
        refine own_via (T' := T8) (g' := (mkF m 50 #[.val (.int p1), .val (.int p2), .val (.int p3), .val (.int p4), .val (.int p5), .val (.int mm), .unset, .unset] [(.int ((p3 &&& (7 : Int32)) - (3 : Int32))), (.int (own_rate ((p2 &&& (2147483647 : Int32)) % (12 : Int32))))])) (fun t k => XS.isub X8.here hx rfl (hb hby at_49) rfl k) ?_
        refine own_via (T' := T8) (g' := (mkF m 51 #[.val (.int p1), .val (.int p2), .val (.int p3), .val (.int p4), .val (.int p5), .val (.int mm), .unset, .unset] [(.int ((own_rate ((p2 &&& (2147483647 : Int32)) % (12 : Int32))) + ((p3 &&& (7 : Int32)) - (3 : Int32))))])) (fun t k => XS.iadd X8.here hx rfl (hb hby at_50) rfl k) ?_
        refine own_via (T' := T8) (g' := (mkF m 53 #[.val (.int p1), .val (.int p2), .val (.int p3), .val (.int p4), .val (.int p5), .val (.int mm), .val (.int ((own_rate ((p2 &&& (2147483647 : Int32)) % (12 : Int32))) + ((p3 &&& (7 : Int32)) - (3 : Int32)))), .unset] [])) (fun t k => XS.istore X8.here hx rfl (hb hby at_51) rfl (l' := #[.val (.int p1), .val (.int p2), .val (.int p3), .val (.int p4), .val (.int p5), .val (.int mm), .val (.int ((own_rate ((p2 &&& (2147483647 : Int32)) % (12 : Int32))) + ((p3 &&& (7 : Int32)) - (3 : Int32)))), .unset]) rfl k) ?_
        exact J1 ((own_rate ((p2 &&& (2147483647 : Int32)) % (12 : Int32))) + ((p3 &&& (7 : Int32)) - (3 : Int32))) T8 X8 e8
set_option maxRecDepth 65536 in
set_option maxHeartbeats 40000000 in
theorem comes_1 {Post : Tables → Env → Array Value → State → Outcome → State → Prop} (hpost : ∀ tb e args s v u, (limb_1_1.after args s (.returned v) u = true ∧ limb_1_2.after args s (.returned v) u = true ∧ True) → FrameEnd s (.returned v) u (Jvm.fieldLocs frame_1_writes args s ++ Jvm.arrayLocs frame_1_arrays args s ++ Jvm.staticLocs frame_1_statics s) 16 128 → Post tb e args s (.returned v) u) :
    ArmFor flags0 classFile x code maxLocals ret World_1 tables_1 room_1 Calls_1 rest_1 Pre_1 Post := by
  intro l hfl _ _ p e ha hc hk s m args below hf hA hF happ hP
  obtain ⟨hcalls, hrest, hpre⟩ := hP
  obtain ⟨-, -, -, hnamed, -, -, -, hat⟩ := (Spec.applies_iff hf).mp happ
  obtain ⟨hg, hn⟩ := and_e (Cond.before_iff.mp (show (Jvm.Cond.and given_1 narrow_1).before args s = true from hpre))
  obtain ⟨g1a, g1b⟩ := and_e hg
  obtain ⟨g2a, g2b⟩ := and_e g1b
  obtain ⟨g3a, g3b⟩ := and_e g2b
  obtain ⟨g4a, g4b⟩ := and_e g3b
  obtain ⟨g5a, g5b⟩ := and_e g4b
  obtain ⟨w0, w1, w2, w3, w4, rfl⟩ : ∃ w0 w1 w2 w3 w4 : Value, args = #[w0, w1, w2, w3, w4] := by
    have hs : args.size = 5 := by simpa [Cond.value, given_1] using g1a
    obtain ⟨L⟩ := args
    match L, hs with
    | [w0, w1, w2, w3, w4], _ => exact ⟨w0, w1, w2, w3, w4, rfl⟩
  have hw := fun d (hd : d ∈ tables_1) => atoms_spec (ws := Jvm.Cond.code x code maxLocals ret :: tables_1) hat d (List.mem_cons_of_mem _ hd)
  have hfit : Fit s := fun {y c} hc i hi => by
    obtain ⟨ha, rfl⟩ := Array.getElem?_eq_some_iff.mp hc
    have q := List.all_eq_true.mp ((Array.all_eq_true_iff_forall_mem.mp hF) _ (Array.getElem_mem ha)) i (List.mem_range.mpr hi)
    simpa [Array.getElem?_eq_getElem hi] using q
  obtain ⟨i0, ei0⟩ := is_v g2a
  obtain rfl : w0 = (.int i0) := Option.some.inj ei0
  obtain ⟨i1, ei1⟩ := is_v g3a
  obtain rfl : w1 = (.int i1) := Option.some.inj ei1
  obtain ⟨i2, ei2⟩ := is_v g4a
  obtain rfl : w2 = (.int i2) := Option.some.inj ei2
  obtain ⟨i3, ei3⟩ := is_v g5a
  obtain rfl : w3 = (.int i3) := Option.some.inj ei3
  obtain ⟨i4, ei4⟩ := is_v g5b
  obtain rfl : w4 = (.int i4) := Option.some.inj ei4
  obtain ⟨g6a, g6b⟩ := and_e hn
  obtain ⟨g7a, g7b⟩ := and_e g6b
  obtain ⟨g8a, g8b⟩ := and_e g7b
  obtain ⟨g9a, g9b⟩ := and_e g8b
  obtain ⟨g10a, g10b⟩ := and_e g9b
  obtain ⟨g11a, g11b⟩ := and_e g10b
  obtain ⟨g12a, g12b⟩ := and_e g11b
  obtain ⟨g13a, g13b⟩ := and_e g12b
  obtain ⟨g14a, g14b⟩ := and_e g13b
  obtain ⟨g15a, g15b⟩ := and_e g14b
  obtain ⟨g16a, g16b⟩ := and_e g15b
  obtain ⟨g17a, g17b⟩ := and_e g16b
  obtain ⟨g18a, g18b⟩ := and_e g17b
  obtain ⟨ra, ev⟩ := arr_v g6a
  obtain ⟨cl, Ar⟩ := Arr.start ev g6a
  have SR := Sta.start ev (Or.inr ⟨(hw _ (List.mem_of_getElem? (i := 2) rfl)), (hw _ (List.mem_of_getElem? (i := 26) rfl))⟩)
  obtain ⟨hsz, hz⟩ := own_len ev Ar (own_evI g7a)
  have SZ := own_size hsz hz
  have el0 := (elem_in (own_evI g8a) ev (j := (0 : Int32)) rfl Ar.1).2
  have el1 := (elem_in (own_evI g9a) ev (j := (1 : Int32)) rfl Ar.1).2
  have el2 := (elem_in (own_evI g10a) ev (j := (2 : Int32)) rfl Ar.1).2
  have el3 := (elem_in (own_evI g11a) ev (j := (3 : Int32)) rfl Ar.1).2
  have el4 := (elem_in (own_evI g12a) ev (j := (4 : Int32)) rfl Ar.1).2
  have el5 := (elem_in (own_evI g13a) ev (j := (5 : Int32)) rfl Ar.1).2
  have el6 := (elem_in (own_evI g14a) ev (j := (6 : Int32)) rfl Ar.1).2
  have el7 := (elem_in (own_evI g15a) ev (j := (7 : Int32)) rfl Ar.1).2
  have el8 := (elem_in (own_evI g16a) ev (j := (8 : Int32)) rfl Ar.1).2
  have el9 := (elem_in (own_evI g17a) ev (j := (9 : Int32)) rfl Ar.1).2
  have el10 := (elem_in (own_evI g18a) ev (j := (10 : Int32)) rfl Ar.1).2
  have el11 := (elem_in (own_evI g18b) ev (j := (11 : Int32)) rfl Ar.1).2
  obtain ⟨n, o, h1, h2, h3, _, L, rfl, hQ, hq⟩ := own_c0 l s _ hw i0 i1 i2 i3 i4 ra cl s.heap SR Ar SZ el0 el1 el2 el3 el4 el5 el6 el7 el8 el9 el10 el11 p e ha hc hk s m _ below hf ((Spec.applies_iff_loose hf).mp happ).1 ⟨rfl, State.Warmed39.refl s, rfl⟩ trivial
  obtain ⟨rfl, N⟩ := own_fin hQ
  refine ⟨n, _, h1, h2, h3, hpost _ _ _ _ _ _ ⟨Cond.after_iff.mpr rfl, Cond.after_iff.mpr (eq_i res_at (Term.int_eval (1)) rfl), trivial⟩ ⟨hq.1, hq.2.1, (hq.2.2.sift fun y hy => Or.inr (N y hy)).mono (by decide) (by decide)⟩⟩
theorem main_1_1 : Claimed_1_1 := comes_1 fun _ _ _ _ _ _ h hF => ⟨h.1, hF⟩
theorem main_1_2 : Claimed_1_2 := comes_1 fun _ _ _ _ _ _ h hF => ⟨h.2.1, hF⟩
end Jvm.Pilot.@@N@@
namespace Jvm.Pilot.@@N@@
open Jvm Jvm.ClassFile Sem Op Lib Jvm.Free Jvm.Stand Jvm.Pilot.@@N@@.Jvm.D
/-! MADE BY PROGRAM (witnessworld.py) out of the Statement's table words and the real class files: 10 classes; the members and pool entries that the words name. The judged class is class 1, her method 1. -/
namespace start1
open Jvm.ClassFile
def u (s : String) : CpInfo := .utf8 (stringToUtf16 s)
/-- a pool by its gaps: so many unusable entries, then the entry; so many at the end -/
def gap : Nat → List CpInfo → List CpInfo
  | 0, r => r
  | n + 1, r => .unusable :: gap n r
def poolList (es : List (Nat × CpInfo)) (last : Nat) : List CpInfo := es.foldr (fun e r => gap e.1 (e.2 :: r)) (gap last [])
def pool (es : List (Nat × CpInfo)) (last : Nat) : Array CpInfo := ⟨poolList es last⟩
def fileOf (pool : Array CpInfo) (this : Nat) (attrs : Array Attribute := #[]) (ms : Array MethodInfo := #[]) (fl : Nat := 33) (sup : Nat := 0) (ifs : Array Nat := #[]) (fds : Array FieldInfo := #[]) : ClassFile where
  minorVersion := 0
  majorVersion := 65
  constantPool := pool
  accessFlags := fl
  thisClass := this
  superClass := sup
  interfaces := ifs
  fields := fds
  methods := ms
  attributes := attrs
def plain (name : String) (sup : Option ClassId) : Class where
  name := name
  kind := .ordinary
  loader := none
  accessFlags := 33
  super := sup
  interfaces := #[]
  cf := none
  fields := #[]
  methods := #[]
  instanceTypes := #[]
  staticTypes := #[]
  resolved := #[]
  callSites := []
  init := .initialized
  statics := none
  mirror := none

def pool0 : Array CpInfo := pool [(5, u "<init>"), (0, u "()V"), (1, .class_ 10), (1, u "java/lang/Object")] 113

def k0c0 : Code := { maxStack := 0, maxLocals := 1, code := object_method_1_code, exceptionTable := #[], attributes := #[] }
def k0m0 : Method := { name := "<init>", desc := "()V", sig := { parameters := [], returnType := none }, accessFlags := 1, code := some k0c0 }
/-- java/lang/Object -/
def k0 : Class := { plain "java/lang/Object" none with
  accessFlags := 33
  interfaces := #[]
  cf := some (fileOf pool0 8 #[] #[{ accessFlags := 1, nameIndex := 5, descriptorIndex := 6, attributes := #[] }] 33 0 #[] #[])
  fields := #[]
  methods := #[k0m0]
  instanceTypes := #[]
  staticTypes := #[]
  resolved := Array.replicate 124 none
  statics := none }

def pool1 : Array CpInfo := pool [(2, .class_ 4), (1, u "java/lang/Object"), (0, u "<init>"), (0, u "()V"), (0, .integer 2147483647), (0, .integer 100001), (0, .methodref 10 11), (0, .class_ 12), (0, .nameAndType 13 14), (0, u "com/example/lazytail/lazytail/media/SourceAudioRenditionRatePinLaw"), (0, u "rateAt"), (0, u "(I)I"), (0, .class_ 16), (0, u "com/example/lazytail/lazytail/media/SourceAudio"), (0, .methodref 15 18), (0, .nameAndType 5 19), (0, u "(III)V"), (0, .methodref 15 21), (0, .nameAndType 22 23), (0, u "renditionRate"), (0, u "()I"), (0, .methodref 10 25), (0, .nameAndType 26 14), (0, u "expected"), (0, .integer 44100), (0, .integer 48000), (0, .integer 64000), (0, .integer 88200), (0, .integer 96000), (2, u "law"), (0, u "(IIIII)Z")] 3

def k1m0 : Method := { name := "<init>", desc := "()V", sig := { parameters := [], returnType := none }, accessFlags := 2, code := none }
def k1c1 : Code := { maxStack := 5, maxLocals := 8, code := code, exceptionTable := #[], attributes := #[] }
def k1m1 : Method := { name := "law", desc := "(IIIII)Z", sig := { parameters := [.int, .int, .int, .int, .int], returnType := some .boolean }, accessFlags := 9, code := some k1c1 }
def k1c2 : Code := { maxStack := 2, maxLocals := 1, code := method_3_code, exceptionTable := #[], attributes := #[] }
def k1m2 : Method := { name := "rateAt", desc := "(I)I", sig := { parameters := [.int], returnType := some .int }, accessFlags := 10, code := some k1c2 }
def k1c3 : Code := { maxStack := 2, maxLocals := 1, code := method_4_code, exceptionTable := #[], attributes := #[] }
def k1m3 : Method := { name := "expected", desc := "(I)I", sig := { parameters := [.int], returnType := some .int }, accessFlags := 10, code := some k1c3 }
/-- com/example/lazytail/lazytail/media/SourceAudioRenditionRatePinLaw -/
def k1 : Class := { plain "com/example/lazytail/lazytail/media/SourceAudioRenditionRatePinLaw" (some 0) with
  accessFlags := 49
  interfaces := #[]
  cf := some (fileOf pool1 10 #[] #[{ accessFlags := 2, nameIndex := 5, descriptorIndex := 6, attributes := #[] }, { accessFlags := 9, nameIndex := 34, descriptorIndex := 35, attributes := #[] }, { accessFlags := 10, nameIndex := 13, descriptorIndex := 14, attributes := #[] }, { accessFlags := 10, nameIndex := 26, descriptorIndex := 14, attributes := #[] }] 49 2 #[] #[])
  fields := #[]
  methods := #[k1m0, k1m1, k1m2, k1m3]
  instanceTypes := #[]
  staticTypes := #[]
  resolved := Array.replicate 39 none
  statics := none }

def pool2 : Array CpInfo := pool [(1, .methodref 2 3), (0, .class_ 4), (0, .nameAndType 5 6), (0, u "java/lang/Object"), (0, u "<init>"), (0, u "()V"), (0, .class_ 8), (0, u "java/lang/Record")] 13

def k2c0 : Code := { maxStack := 1, maxLocals := 1, code := jdk_30_method_1_code, exceptionTable := #[], attributes := #[] }
def k2m0 : Method := { name := "<init>", desc := "()V", sig := { parameters := [], returnType := none }, accessFlags := 4, code := some k2c0 }
/-- java/lang/Record -/
def k2 : Class := { plain "java/lang/Record" (some 0) with
  accessFlags := 1057
  interfaces := #[]
  cf := some (fileOf pool2 7 #[] #[{ accessFlags := 4, nameIndex := 5, descriptorIndex := 6, attributes := #[] }] 1057 2 #[] #[])
  fields := #[]
  methods := #[k2m0]
  instanceTypes := #[]
  staticTypes := #[]
  resolved := Array.replicate 22 none
  statics := none }

def pool3 : Array CpInfo := pool [(1, .methodref 2 3), (0, .class_ 4), (0, .nameAndType 5 6), (0, u "java/lang/Record"), (0, u "<init>"), (0, u "()V"), (0, .fieldref 8 9), (0, .class_ 10), (0, .nameAndType 11 12), (0, u "com/example/lazytail/lazytail/media/SourceAudio"), (0, u "stream"), (0, u "I"), (0, .fieldref 8 14), (0, .nameAndType 15 12), (0, u "sampleRate"), (0, .fieldref 8 17), (0, .nameAndType 18 12), (0, u "channels"), (0, .class_ 20), (0, u "com/example/lazytail/lazytail/media/SourceAudio$Probe"), (91, .fieldref 8 113), (0, .nameAndType 114 115), (0, u "AAC_RATES"), (0, u "[I"), (21, u "(III)V"), (21, u "ENTRIES"), (0, u "Ljava/lang/String;"), (1, u "MOST_CHANNELS"), (13, u "renditionRate"), (0, u "()I")] 31

def k3c0 : Code := { maxStack := 2, maxLocals := 4, code := prog_29_method_1_code, exceptionTable := #[], attributes := #[] }
def k3m0 : Method := { name := "<init>", desc := "(III)V", sig := { parameters := [.int, .int, .int], returnType := none }, accessFlags := 1, code := some k3c0 }
def k3c1 : Code := { maxStack := 3, maxLocals := 3, code := prog_29_method_4_code, exceptionTable := #[], attributes := #[] }
def k3m1 : Method := { name := "renditionRate", desc := "()I", sig := { parameters := [], returnType := some .int }, accessFlags := 1, code := some k3c1 }
/-- com/example/lazytail/lazytail/media/SourceAudio -/
def k3 : Class := { plain "com/example/lazytail/lazytail/media/SourceAudio" (some 2) with
  accessFlags := 49
  interfaces := #[]
  cf := some (fileOf pool3 8 #[.nestMembers #[19]] #[{ accessFlags := 1, nameIndex := 5, descriptorIndex := 137, attributes := #[] }, { accessFlags := 1, nameIndex := 176, descriptorIndex := 177, attributes := #[] }] 49 2 #[] #[{ accessFlags := 18, nameIndex := 11, descriptorIndex := 12, attributes := #[] }, { accessFlags := 18, nameIndex := 15, descriptorIndex := 12, attributes := #[] }, { accessFlags := 18, nameIndex := 18, descriptorIndex := 12, attributes := #[] }, { accessFlags := 24, nameIndex := 159, descriptorIndex := 160, attributes := #[] }, { accessFlags := 26, nameIndex := 114, descriptorIndex := 115, attributes := #[] }, { accessFlags := 26, nameIndex := 162, descriptorIndex := 12, attributes := #[] }])
  fields := #[{ name := "stream", type := .int, accessFlags := 18, slot := 0, constantValue := 0 }, { name := "sampleRate", type := .int, accessFlags := 18, slot := 1, constantValue := 0 }, { name := "channels", type := .int, accessFlags := 18, slot := 2, constantValue := 0 }, { name := "ENTRIES", type := (.object "java/lang/String"), accessFlags := 24, slot := 0, constantValue := 0 }, { name := "AAC_RATES", type := (.array .int), accessFlags := 26, slot := 1, constantValue := 0 }, { name := "MOST_CHANNELS", type := .int, accessFlags := 26, slot := 2, constantValue := 0 }]
  methods := #[k3m0, k3m1]
  instanceTypes := #[.int, .int, .int]
  staticTypes := #[(.object "java/lang/String"), (.array .int), .int]
  resolved := Array.replicate 209 none
  statics := some 0 }

def pool4 : Array CpInfo := pool [(1, u "java/lang/Cloneable"), (0, .class_ 1), (0, u "java/lang/Object"), (0, .class_ 3)] 3

/-- java/lang/Cloneable -/
def k4 : Class := { plain "java/lang/Cloneable" (some 0) with
  accessFlags := 1537
  interfaces := #[]
  cf := some (fileOf pool4 2 #[] #[] 1537 4 #[] #[])
  fields := #[]
  methods := #[]
  instanceTypes := #[]
  staticTypes := #[]
  resolved := Array.replicate 8 none
  statics := none }

def pool5 : Array CpInfo := pool [(1, u "java/io/Serializable"), (0, .class_ 1), (0, u "java/lang/Object"), (0, .class_ 3)] 3

/-- java/io/Serializable -/
def k5 : Class := { plain "java/io/Serializable" (some 0) with
  accessFlags := 1537
  interfaces := #[]
  cf := some (fileOf pool5 2 #[] #[] 1537 4 #[] #[])
  fields := #[]
  methods := #[]
  instanceTypes := #[]
  staticTypes := #[]
  resolved := Array.replicate 8 none
  statics := none }

/-- the primitive byte -/
def k6 : Class := { plain "byte" none with kind := .primitive 'B', accessFlags := 0x411 }
/-- [B -/
def k7 : Class := { plain "[B" (some 0) with kind := .array 6 .byte, interfaces := #[4, 5], accessFlags := 1041 }

/-- the primitive int -/
def k8 : Class := { plain "int" none with kind := .primitive 'I', accessFlags := 0x411 }
/-- [I -/
def k9 : Class := { plain "[I" (some 0) with kind := .array 8 .int, interfaces := #[4, 5], accessFlags := 1041 }

def heap : Heap := #[{ cls := 3, slots := #[.null, .ref 1, .int 0], vm := .statics 3 },
  { cls := 9, slots := #[.int 8000, .int 11025, .int 12000, .int 16000, .int 22050, .int 24000, .int 32000, .int 44100, .int 48000, .int 64000, .int 88200, .int 96000], vm := .none }]
def classes : Array Class := #[k0, k1, k2, k3, k4, k5, k6, k7, k8, k9]
def interned : List (Array UInt16 × Addr) := []
def slotsUsed : Nat := 15
def theMethod : MethodId := ⟨1, 1⟩
def args0 : Array Value := #[.int 1, .int 5, .int 6, .int 7, .int 8]
def aboutOver (below : List Frame) : State where
  vm := { classes := classes, interned := interned.toArray }
  heap := heap
  slotsUsed := slotsUsed
  threads := #[{ frames := .invoking theMethod args0 :: below }]
def below0 : List Frame := [.native { method := ⟨0, 0⟩, args := #[] }]
def about1 : State := aboutOver below0
def p0 : Program := .bare "" "" ""
def e0 : Env := launch0.env 0 0 0
theorem w_frames : about1.frames = Frame.invoking theMethod args0 :: below0 := rfl
set_option maxRecDepth 65536 in
theorem w_args : argsFit about1.vm theMethod args0 = true := by decide +kernel
set_option maxRecDepth 65536 in
theorem w_heap : heapFits about1 = true := by decide +kernel
set_option maxRecDepth 65536 in
theorem w_runnable : about1.curStatus? = some .runnable := by decide +kernel
set_option maxRecDepth 65536 in
theorem w_alone : about1.alone = true := by decide +kernel
set_option maxRecDepth 65536 in
theorem w_named : about1.methodNamed? x = some theMethod := by decide +kernel
set_option maxRecDepth 65536 in
theorem w_hears : about1.hears theMethod below0 = true := by decide +kernel
set_option maxRecDepth 65536 in
theorem w_ripe : about1.ripe theMethod args0 below0 = true := by decide +kernel
theorem w_running : about1.status = .running := rfl
set_option maxRecDepth 65536 in
theorem w_room : about1.hasRoom e0.platform room_1 = true :=
  launch0.hasRoom_least _ room_1 (by decide +kernel) (by decide +kernel) (by decide +kernel) (by decide +kernel) (by decide +kernel) (by decide +kernel)
theorem allAtoms_all (ts : List Jvm.Cond) (a : Array Jvm.Value) (st : Jvm.State) : (allAtoms ts).before a st = ts.all (fun c => c.before a st) := by
  induction ts with
  | nil => rfl
  | cons c t ih =>
    show (Jvm.Cond.and c (allAtoms t)).before a st = _
    rw [Jvm.Cond.before_and, ih, List.all_cons]
def words1 : List Jvm.Cond := Jvm.Cond.code x code maxLocals ret :: tables_1
/-- a 'code' word, met by the world's own term for the bytes: nothing is compared byte by byte -/
theorem code_word {y : MethodName} {bytes : ByteArray} {mx : Nat} {rt : Option FieldType} {a : Array Value} {s : State} {m : MethodId} {meth : Method} {c : Code} (h1 : s.methodNamed? y = some m) (h2 : s.vm.method? m = some meth) (h3 : meth.code = some c) (h4 : c.code = bytes)
    (h5 : (c.maxLocals == mx && c.exceptionTable.isEmpty && decide (c.maxStack ≤ mostOperands) && decide (meth.sig.returnType = rt) && !meth.locks && decide (parseMethodDescriptor y.desc = some meth.sig)) = true) : (Jvm.Cond.code y bytes mx rt).before a s = true := by
  simp only [Bool.and_eq_true, beq_iff_eq, Bool.not_eq_true', decide_eq_true_eq] at h5
  obtain ⟨⟨⟨⟨⟨g1, g2⟩, g3⟩, g4⟩, g5⟩, g6⟩ := h5
  simp [Cond.before, Cond.holds, Cond.value, h1, h2, h3, h4, g1, g2, g3, g4, g5, g6]
def isCode : Jvm.Cond → Bool
  | .code _ _ _ _ => true
  | _ => false
theorem all_split {L : List Jvm.Cond} {P : Jvm.Cond → Bool} (h1 : L.all (fun c => isCode c || P c) = true) (h2 : ∀ c ∈ L.filter isCode, P c = true) : L.all P = true := by
  refine List.all_eq_true.mpr fun c hc => ?_
  have h := List.all_eq_true.mp h1 c hc
  rcases Bool.eq_false_or_eq_true (isCode c) with hi | hi
  · exact h2 c (List.mem_filter.mpr ⟨hc, hi⟩)
  · simpa [hi] using h
set_option maxRecDepth 65536 in
theorem w_c0 : (Jvm.Cond.code x code maxLocals ret).before args0 about1 = true := code_word (m := ⟨1, 1⟩) (meth := k1m1) (c := k1c1) (by decide +kernel) rfl rfl rfl (by decide +kernel)
set_option maxRecDepth 65536 in
theorem w_c1 : (Jvm.Cond.code ({ cls := "com/example/lazytail/lazytail/media/SourceAudio", name := "<init>", desc := "(III)V" } : Jvm.MethodName) prog_29_method_1_code (4 : Nat) (Option.none : Option Jvm.ClassFile.FieldType)).before args0 about1 = true := code_word (m := ⟨3, 0⟩) (meth := k3m0) (c := k3c0) (by decide +kernel) rfl rfl rfl (by decide +kernel)
set_option maxRecDepth 65536 in
theorem w_c2 : (Jvm.Cond.code ({ cls := "java/lang/Record", name := "<init>", desc := "()V" } : Jvm.MethodName) jdk_30_method_1_code (1 : Nat) (Option.none : Option Jvm.ClassFile.FieldType)).before args0 about1 = true := code_word (m := ⟨2, 0⟩) (meth := k2m0) (c := k2c0) (by decide +kernel) rfl rfl rfl (by decide +kernel)
set_option maxRecDepth 65536 in
theorem w_c3 : (Jvm.Cond.code ({ cls := "java/lang/Object", name := "<init>", desc := "()V" } : Jvm.MethodName) object_method_1_code (1 : Nat) (Option.none : Option Jvm.ClassFile.FieldType)).before args0 about1 = true := code_word (m := ⟨0, 0⟩) (meth := k0m0) (c := k0c0) (by decide +kernel) rfl rfl rfl (by decide +kernel)
set_option maxRecDepth 65536 in
theorem w_c4 : (Jvm.Cond.code ({ cls := "com/example/lazytail/lazytail/media/SourceAudio", name := "renditionRate", desc := "()I" } : Jvm.MethodName) prog_29_method_4_code (3 : Nat) (Option.some Jvm.ClassFile.FieldType.int)).before args0 about1 = true := code_word (m := ⟨3, 1⟩) (meth := k3m1) (c := k3c1) (by decide +kernel) rfl rfl rfl (by decide +kernel)
set_option maxRecDepth 65536 in
theorem w_c5 : (Jvm.Cond.code ({ cls := "com/example/lazytail/lazytail/media/SourceAudioRenditionRatePinLaw", name := "expected", desc := "(I)I" } : Jvm.MethodName) method_4_code (1 : Nat) (Option.some Jvm.ClassFile.FieldType.int)).before args0 about1 = true := code_word (m := ⟨1, 3⟩) (meth := k1m3) (c := k1c3) (by decide +kernel) rfl rfl rfl (by decide +kernel)
set_option maxRecDepth 65536 in
theorem w_c6 : (Jvm.Cond.code ({ cls := "com/example/lazytail/lazytail/media/SourceAudioRenditionRatePinLaw", name := "rateAt", desc := "(I)I" } : Jvm.MethodName) method_3_code (1 : Nat) (Option.some Jvm.ClassFile.FieldType.int)).before args0 about1 = true := code_word (m := ⟨1, 2⟩) (meth := k1m2) (c := k1c2) (by decide +kernel) rfl rfl rfl (by decide +kernel)
def codes1 : List Jvm.Cond := [Jvm.Cond.code x code maxLocals ret, Jvm.Cond.code ({ cls := "com/example/lazytail/lazytail/media/SourceAudio", name := "<init>", desc := "(III)V" } : Jvm.MethodName) prog_29_method_1_code (4 : Nat) (Option.none : Option Jvm.ClassFile.FieldType), Jvm.Cond.code ({ cls := "java/lang/Record", name := "<init>", desc := "()V" } : Jvm.MethodName) jdk_30_method_1_code (1 : Nat) (Option.none : Option Jvm.ClassFile.FieldType), Jvm.Cond.code ({ cls := "java/lang/Object", name := "<init>", desc := "()V" } : Jvm.MethodName) object_method_1_code (1 : Nat) (Option.none : Option Jvm.ClassFile.FieldType), Jvm.Cond.code ({ cls := "com/example/lazytail/lazytail/media/SourceAudio", name := "renditionRate", desc := "()I" } : Jvm.MethodName) prog_29_method_4_code (3 : Nat) (Option.some Jvm.ClassFile.FieldType.int), Jvm.Cond.code ({ cls := "com/example/lazytail/lazytail/media/SourceAudioRenditionRatePinLaw", name := "expected", desc := "(I)I" } : Jvm.MethodName) method_4_code (1 : Nat) (Option.some Jvm.ClassFile.FieldType.int), Jvm.Cond.code ({ cls := "com/example/lazytail/lazytail/media/SourceAudioRenditionRatePinLaw", name := "rateAt", desc := "(I)I" } : Jvm.MethodName) method_3_code (1 : Nat) (Option.some Jvm.ClassFile.FieldType.int)]
set_option maxRecDepth 65536 in
theorem codes_eq : words1.filter isCode = codes1 := rfl
theorem w_codes : ∀ c ∈ words1.filter isCode, c.before args0 about1 = true := by
  rw [codes_eq]
  intro c hc
  simp only [codes1, List.mem_cons, List.not_mem_nil, or_false] at hc
  rcases hc with rfl | rfl | rfl | rfl | rfl | rfl | rfl
  · exact w_c0
  · exact w_c1
  · exact w_c2
  · exact w_c3
  · exact w_c4
  · exact w_c5
  · exact w_c6
set_option maxRecDepth 65536 in
theorem w_t1 : (words1.take 24).all (fun c => isCode c || c.before args0 about1) = true := by decide +kernel
set_option maxRecDepth 65536 in
theorem w_t2 : (words1.drop 24).all (fun c => isCode c || c.before args0 about1) = true := by decide +kernel
theorem w_tables : (allAtoms (Jvm.Cond.code x code maxLocals ret :: tables_1)).before args0 about1 = true := by
  rw [allAtoms_all]
  show words1.all (fun c => c.before args0 about1) = true
  refine all_split ?_ w_codes
  rw [← List.take_append_drop 24 words1, List.all_append, w_t1, w_t2]
  rfl
set_option maxRecDepth 65536 in
theorem w_case : (Jvm.Cond.and given_1 narrow_1).before args0 about1 = true := by decide +kernel
theorem w_applies : (headSpec (Jvm.Cond.code x code maxLocals ret :: tables_1) room_1).applies x e0.platform about1 = true :=
  (Spec.applies_iff w_frames).mpr ⟨w_running, w_runnable, w_alone, w_named, w_hears, w_ripe, w_room, w_tables⟩
theorem atStart : AtStart classFile x code maxLocals ret World_1 tables_1 room_1 Calls_1 rest_1 Pre_1 launch0 p0 e0 about1 theMethod args0 below0 :=
  ⟨lists_1, trivial, launch0.admits_env _ _ _, launch0.least_env, fairChoices_fair.cas, fairChoices_fair.clock, w_frames, w_args, w_heap, w_applies, trivial, trivial, w_case⟩
end start1
theorem witness_1 : WitnessClaimed_1 := ⟨start1.p0, start1.e0, start1.about1, start1.theMethod, start1.args0, start1.below0, start1.atStart⟩
end Jvm.Pilot.@@N@@
