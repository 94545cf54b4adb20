import JvmDerived
import JvmDerived.Pilot.@@N@@Statement
import JvmDerived.Pilot.@@N@@Code
set_option linter.unusedVariables false
set_option linter.unusedSimpArgs false
namespace Jvm.RoadKit
open Sem ClassFile Op Lib Jvm.Stand Jvm.Free Jvm.LawKit
section Own
variable {p : Program} {l : Launch} {e : Env} {R : Room} {s : State} {m : MethodId} {args : Array Value} {below : List Frame} {meth : Method} {c : Code} {T : State} {locs : List Loc} {cells slots : Nat} {Z : State} {a0 : Array Value} {h : Heap}
/-- the run goes on from the frame g over T to an end that P says -/
def own_Go (p : Program) (e : Env) (below : List Frame) (P : Outcome → State → Prop) (T : State) (g : JFrame) : Prop :=
  ∃ s₂ o, Steps p.tables e below (T.setTop g) s₂ ∧ s₂.status = .running ∧ Ended s₂ below o ∧ P o s₂
theorem own_via {P : Outcome → State → Prop} {T' : State} {g g' : JFrame} (k : ∀ target, Steps p.tables e below (T'.setTop g') target → Steps p.tables e below (T.setTop g) target) (q : own_Go p e below P T' g') : own_Go p e below P T g := by
  obtain ⟨s2, o, h1, h2⟩ := q
  exact ⟨s2, o, k _ h1, h2⟩
theorem own_start {P : Outcome → State → Prop} {g g' : JFrame} (q : g = g') (k : own_Go p e below P T g') : own_Go p e below P T g := q ▸ k
/-- what a body owes at its end -/
abbrev own_End (s : State) (Q : Option Value → Heap → List Loc → Prop) (k n : Nat) : Outcome → State → Prop := fun o U' => ∃ v L, o = .returned v ∧ Q v U'.heap L ∧ FrameEnd s o U' L k n
theorem own_ret {Q : Option Value → Heap → List Loc → Prop} {k n : Nat} {pc : Nat} {Ls : Array Slot} {w : Value} {t : FieldType} {i : Instr} {rest : List Value} (X : Stand p l e R s m args below meth c T locs cells slots) (hx : p.tables.exec = Jvm.exec) (hret : meth.sig.returnType = some t) (hlk : meth.locks = false) (hn : narrow t w = w)
    (hi : (i = .ireturn ∧ (t = .int ∨ t = .boolean ∨ t = .byte ∨ t = .char ∨ t = .short) ∧ ∃ z, w = .int z) ∨ (i = .lreturn ∧ t = .long ∧ ∃ z, w = .long z) ∨ (i = .dreturn ∧ t = .double ∧ ∃ z, w = .double z) ∨ (i = .freturn ∧ t = .float ∧ ∃ z, w = .float z) ∨ (i = .areturn ∧ t.isReference = true ∧ w.isRef = true))
    (hd : decode c.code pc = .ok (i, 1)) (hk : cells ≤ k) (hs : slots ≤ n) (hQ : Q (some w) T.heap locs) : own_Go p e below (own_End s Q k n) T (mkF m pc Ls (w :: rest)) := by
  obtain ⟨fs, hr, hrun, hended, hW, hsame⟩ := X.leave (v := some w) (fun q => by rw [hret] at q; cases q) hlk
  exact ⟨_, _, retOut X hx hret hn hi hd hr, hrun, hended, _, _, rfl, hQ, ⟨_, rfl⟩, hW, hsame.mono hk hs⟩
theorem own_retV {Q : Option Value → Heap → List Loc → Prop} {k n : Nat} {pc : Nat} {Ls : Array Slot} (X : Stand p l e R s m args below meth c T locs cells slots) (hx : p.tables.exec = Jvm.exec) (hret : meth.sig.returnType = none) (hlk : meth.locks = false)
    (hd : decode c.code pc = .ok (.return_, 1)) (hk : cells ≤ k) (hs : slots ≤ n) (hQ : Q none T.heap locs) : own_Go p e below (own_End s Q k n) T (mkF m pc Ls []) := by
  obtain ⟨fs, hr, hrun, hended, hW, hsame⟩ := X.leave (v := none) (fun _ => rfl) hlk
  exact ⟨_, _, X.returnOut hx hret hd hr, hrun, hended, _, _, rfl, hQ, ⟨_, rfl⟩, hW, hsame.mono hk hs⟩
/-- a callee that leaves the heap as it was -/
def own_Q (r : Option Value) (h0 : Heap) (v : Option Value) (h : Heap) (L : List Loc) : Prop := v = r ∧ L = [] ∧ h = h0
def own_F (r : Option Value) (n0 : Nat) (v : Option Value) (h : Heap) (L : List Loc) : Prop := v = r ∧ Fr n0 L
theorem own_fin {r v : Option Value} {n0 : Nat} {h : Heap} {L : List Loc} (q : own_F r n0 v h L) : v = r ∧ Fr n0 L := q
abbrev own_Met (l : Launch) (Z : State) (y : MethodName) (ws : List Cond) (rm : Room) (as' : Array Value) (h0 : Heap) (Q : Option Value → Heap → List Loc → Prop) : Prop :=
  MetFree l y (head1 ws rm) (fun a U => a = as' ∧ Z.Warmed39 U.vm ∧ U.heap = h0) (fun _ _ _ _ _ => True) (fun _ U o U' => ∃ v L, o = .returned v ∧ Q v U'.heap L ∧ FrameEnd U o U' L rm.cells rm.slots)
theorem own_callV {own C : String} {index : Nat} {y z : MethodName} {bytes : ByteArray} {maxL : Nat} {ret : Option FieldType} {rm : Room} {as' : Array Value} {r : Option Value} {W : Nat} {b : Addr}
    (X : Stand p l e R s m args below meth c T locs cells slots) (hx : p.tables.exec = Jvm.exec) (hZ : Z.Warmed39 s.vm) (hown : s.vm.findClass own = some m.cls)
    (wl : (Cond.methodLink own index y).before a0 Z = true) (wd : (Cond.declares y).before a0 Z = true) (nf : NotFace s y) (ws : (Cond.selects C y z).before a0 Z = true) (wi : (Cond.instanceMethod z).before a0 Z = true) (hy : y.cls ≠ "java/lang/invoke/MethodHandle" ∧ y.cls ≠ "java/lang/invoke/VarHandle")
    (wc : (Cond.code z bytes maxL ret).before a0 Z = true) (wz : (Cond.initialized z.cls).before a0 Z = true) (hM : own_Met l Z z [Cond.code z bytes maxL ret] rm as' h (own_Q r h)) (eT : T.heap = h) (E : Exa Z h b C)
    (hf : rm.frames + 1 ≤ R.frames) (hl : W + (maxL + 11) + rm.locals ≤ R.locals) (hc : cells + rm.cells ≤ R.cells) (hs : slots + rm.slots ≤ R.slots)
    {g : JFrame} (hg : g.method = m) (hsize : g.locals.size = c.maxLocals) {argsL rest : List Value} (hlen : ∀ sig, parseMethodDescriptor y.desc = some sig → argsL.length = sig.parameters.length) (hstack : g.stack = argsL.reverse ++ .ref b :: rest)
    (hW : 2 * g.monitorRoom + (rest.map fun v => v.category).sum ≤ W) (hdg : decode c.code g.pc = .ok (.invokevirtual index, 3)) (hargs : (.ref b :: argsL).toArray = as') :
    ∃ T', Stand p l e R s m args below meth c T' locs (cells + rm.cells) (slots + rm.slots) ∧ T'.heap = h ∧ ∀ target, Steps p.tables e below (T'.setTop { g with pc := g.pc + 3, stack := r.toList ++ rest }) target → Steps p.tables e below (T.setTop g) target := by
  obtain ⟨cB, kB, q1, q2, q3⟩ := isOf hZ eT E
  obtain ⟨_, _, ⟨T', L', k', n'⟩, -, X', ⟨Lc, hQ, hl', hk', hn'⟩, st⟩ := X.virtualBack hx (y := y) (z := z) hown (mvT hZ wl) (mvT hZ wd) nf (mvT hZ ws) (mvT hZ wi) hy (backOf (W := W) hM hZ wc wz hf hl) q1 q3 hg hsize (Steps.refl _) hlen hstack hW hdg (fun _ _ => ⟨hargs, eT, hc, hs⟩)
  dsimp only [Pt.U, Pt.locs, Pt.cells, Pt.slots] at X' hl' hk' hn' st hQ
  subst hl' hk' hn'
  obtain ⟨rfl, rfl, e'⟩ := hQ
  rw [List.append_nil] at X'
  exact ⟨T', X', e', fun target k => st.trans k⟩
theorem own_callU {own C owner : String} {index : Nat} {y z : MethodName} {bytes : ByteArray} {maxL : Nat} {ret : Option FieldType} {rm : Room} {as' : Array Value} {r : Option Value} {W : Nat} {b : Addr}
    (X : Stand p l e R s m args below meth c T locs cells slots) (hx : p.tables.exec = Jvm.exec) (hZ : Z.Warmed39 s.vm) (hown : s.vm.findClass own = some m.cls)
    (wl : (Cond.methodLink own index y).before a0 Z = true) (wm : (Cond.sameMethod y.cls owner y.name y.desc).before a0 Z = true) (wd : (Cond.declares ⟨owner, y.name, y.desc⟩).before a0 Z = true) (ho : owner ≠ "java/lang/invoke/MethodHandle" ∧ owner ≠ "java/lang/invoke/VarHandle") (ws : (Cond.selects C y z).before a0 Z = true) (wi : (Cond.instanceMethod z).before a0 Z = true)
    (wc : (Cond.code z bytes maxL ret).before a0 Z = true) (wz : (Cond.initialized z.cls).before a0 Z = true) (hM : own_Met l Z z [Cond.code z bytes maxL ret] rm as' h (own_Q r h)) (eT : T.heap = h) (E : Exa Z h b C)
    (hf : rm.frames + 1 ≤ R.frames) (hl : W + (maxL + 11) + rm.locals ≤ R.locals) (hc : cells + rm.cells ≤ R.cells) (hs : slots + rm.slots ≤ R.slots)
    {g : JFrame} (hg : g.method = m) (hsize : g.locals.size = c.maxLocals) {argsL rest : List Value} (hlen : ∀ sig, parseMethodDescriptor y.desc = some sig → argsL.length = sig.parameters.length) (hstack : g.stack = argsL.reverse ++ .ref b :: rest)
    (hW : 2 * g.monitorRoom + (rest.map fun v => v.category).sum ≤ W) (hdg : decode c.code g.pc = .ok (.invokevirtual index, 3)) (hargs : (.ref b :: argsL).toArray = as') :
    ∃ T', Stand p l e R s m args below meth c T' locs (cells + rm.cells) (slots + rm.slots) ∧ T'.heap = h ∧ ∀ target, Steps p.tables e below (T'.setTop { g with pc := g.pc + 3, stack := r.toList ++ rest }) target → Steps p.tables e below (T.setTop g) target := by
  obtain ⟨cB, kB, q1, q2, q3⟩ := isOf hZ eT E
  obtain ⟨_, _, ⟨T', L', k', n'⟩, -, X', ⟨Lc, hQ, hl', hk', hn'⟩, st⟩ := X.virtualBackUp hx (x := y) (y := z) (owner := owner) hown (mvT hZ wl) (mvT hZ wm) (mvT hZ wd) ho (mvT hZ ws) (mvT hZ wi) (backOf (W := W) hM hZ wc wz hf hl) q1 q3 hg hsize (Steps.refl _) hlen hstack hW hdg (fun _ _ => ⟨hargs, eT, hc, hs⟩)
  dsimp only [Pt.U, Pt.locs, Pt.cells, Pt.slots] at X' hl' hk' hn' st hQ
  subst hl' hk' hn'
  obtain ⟨rfl, rfl, e'⟩ := hQ
  rw [List.append_nil] at X'
  exact ⟨T', X', e', fun target k => st.trans k⟩
theorem own_callS {own : String} {index : Nat} {y : MethodName} {bytes : ByteArray} {maxL : Nat} {ret : Option FieldType} {rm : Room} {as' : Array Value} {r : Option Value} {W : Nat}
    (X : Stand p l e R s m args below meth c T locs cells slots) (hx : p.tables.exec = Jvm.exec) (hZ : Z.Warmed39 s.vm) (hown : s.vm.findClass own = some m.cls)
    (wl : (Cond.methodLink own index y).before a0 Z = true) (wt : (Cond.static y).before a0 Z = true) (wz : (Cond.initialized y.cls).before a0 Z = true) (wc : (Cond.code y bytes maxL ret).before a0 Z = true) (hy : y.cls ≠ "java/lang/invoke/MethodHandle" ∧ y.cls ≠ "java/lang/invoke/VarHandle")
    (hM : own_Met l Z y [Cond.code y bytes maxL ret] rm as' h (own_Q r h)) (eT : T.heap = h)
    (hf : rm.frames + 1 ≤ R.frames) (hl : W + (maxL + 11) + rm.locals ≤ R.locals) (hc : cells + rm.cells ≤ R.cells) (hs : slots + rm.slots ≤ R.slots)
    {g : JFrame} (hg : g.method = m) (hsize : g.locals.size = c.maxLocals) {argsL rest : List Value} (hlen : ∀ sig, parseMethodDescriptor y.desc = some sig → argsL.length = sig.parameters.length) (hstack : g.stack = argsL.reverse ++ rest)
    (hW : 2 * g.monitorRoom + (rest.map fun v => v.category).sum ≤ W) (hdg : decode c.code g.pc = .ok (.invokestatic index, 3)) (hargs : argsL.toArray = as') :
    ∃ T', Stand p l e R s m args below meth c T' locs (cells + rm.cells) (slots + rm.slots) ∧ T'.heap = h ∧ ∀ target, Steps p.tables e below (T'.setTop { g with pc := g.pc + 3, stack := r.toList ++ rest }) target → Steps p.tables e below (T.setTop g) target := by
  obtain ⟨_, _, ⟨T', L', k', n'⟩, -, X', ⟨Lc, hQ, hl', hk', hn'⟩, st⟩ := Jvm.LawKit.callS X hx (y := y) hown (mvT hZ wl) (mvT hZ wt) (mvT hZ wz) (mvT hZ wc) hy (backOf (W := W) hM hZ wc wz hf hl) hg hsize hlen hstack hW hdg (fun _ _ => ⟨hargs, eT, hc, hs⟩)
  dsimp only [Pt.U, Pt.locs, Pt.cells, Pt.slots] at X' hl' hk' hn' st hQ
  subst hl' hk' hn'
  obtain ⟨rfl, rfl, e'⟩ := hQ
  rw [List.append_nil] at X'
  exact ⟨T', X', e', st⟩
theorem own_evI {t : Term} {k : Int32} (q : (Cond.eq t (.int k)).value args Z none Z [] = some true) : t.eval args Z none [] Z = some (.int k) := eqv_i rfl q
theorem own_evL {t : Term} {k : Int64} (q : (Cond.eq t (.long k)).value args Z none Z [] = some true) : t.eval args Z none [] Z = some (.long k) := eqv_l rfl q
theorem own_fld {t : Term} {k : Int32} {a : Addr} {C n d : String} (q : (Cond.eq (.field t C n d) (.int k)).value args Z none Z [] = some true) (ht : t.eval args Z none [] Z = some (.ref a)) : Fld Z Z.heap a C n d (.int k) := Fld.start ((fld_at ht).symm.trans (own_evI q))
theorem own_staK {h' : Heap} {C n d : String} {v : Value} (F : Sta Z h C n d v) (K : Keep h h' []) : Sta Z h' C n d v := by
  obtain ⟨cf, i, k, f, st, cell, h1, h2, h3, h4, h5, r⟩ := F
  exact ⟨cf, i, k, f, st, cell, h1, h2, h3, h4, K.2.1 _ _ h5 nin0, r⟩
theorem own_arrK {h' : Heap} {a : Addr} {cl : Cell} {ty : FieldType} (F : Arr Z h a cl ty) (K : Keep h h' []) : Arr Z h' a cl ty := ⟨K.2.1 _ _ F.1 nin0, F.2⟩
/-- a static call by a contract of any kind -/
theorem own_callSQ {own : String} {index : Nat} {y : MethodName} {bytes : ByteArray} {maxL : Nat} {ret : Option FieldType} {rm : Room} {as' : Array Value} {Q : Option Value → Heap → List Loc → Prop} {W : Nat}
    (X : Stand p l e R s m args below meth c T locs cells slots) (hx : p.tables.exec = Jvm.exec) (hZ : Z.Warmed39 s.vm) (hown : s.vm.findClass own = some m.cls)
    (wl : (Cond.methodLink own index y).before a0 Z = true) (wt : (Cond.static y).before a0 Z = true) (wz : (Cond.initialized y.cls).before a0 Z = true) (wc : (Cond.code y bytes maxL ret).before a0 Z = true) (hy : y.cls ≠ "java/lang/invoke/MethodHandle" ∧ y.cls ≠ "java/lang/invoke/VarHandle")
    (hM : own_Met l Z y [Cond.code y bytes maxL ret] rm as' h Q) (eT : T.heap = h)
    (hf : rm.frames + 1 ≤ R.frames) (hl : W + (maxL + 11) + rm.locals ≤ R.locals) (hc : cells + rm.cells ≤ R.cells) (hs : slots + rm.slots ≤ R.slots)
    {g : JFrame} (hg : g.method = m) (hsize : g.locals.size = c.maxLocals) {argsL rest : List Value} (hlen : ∀ sig, parseMethodDescriptor y.desc = some sig → argsL.length = sig.parameters.length) (hstack : g.stack = argsL.reverse ++ rest)
    (hW : 2 * g.monitorRoom + (rest.map fun v => v.category).sum ≤ W) (hdg : decode c.code g.pc = .ok (.invokestatic index, 3)) (hargs : argsL.toArray = as') :
    ∃ v T' Lc, Stand p l e R s m args below meth c T' (locs ++ Lc) (cells + rm.cells) (slots + rm.slots) ∧ Q v T'.heap Lc ∧ ∀ target, Steps p.tables e below (T'.setTop { g with pc := g.pc + 3, stack := v.toList ++ rest }) target → Steps p.tables e below (T.setTop g) target := by
  obtain ⟨v, _, ⟨T', L', k', n'⟩, -, X', ⟨Lc, hQ, hl', hk', hn'⟩, st⟩ := Jvm.LawKit.callS X hx (y := y) hown (mvT hZ wl) (mvT hZ wt) (mvT hZ wz) (mvT hZ wc) hy (backOf (W := W) hM hZ wc wz hf hl) hg hsize hlen hstack hW hdg (fun _ _ => ⟨hargs, eT, hc, hs⟩)
  dsimp only [Pt.U, Pt.locs, Pt.cells, Pt.slots] at X' hl' hk' hn' st hQ
  subst hl' hk' hn'
  exact ⟨v, T', Lc, X', hQ, st⟩
/-- a constructor's call by a contract of any kind -/
theorem own_callIQ {own : String} {index : Nat} {y : MethodName} {bytes : ByteArray} {maxL : Nat} {rm : Room} {as' : Array Value} {Q : Option Value → Heap → List Loc → Prop} {W : Nat} {b : Addr}
    (X : Stand p l e R s m args below meth c T locs cells slots) (hx : p.tables.exec = Jvm.exec) (hZ : Z.Warmed39 s.vm) (hy1 : y.name = "<init>") (hown : s.vm.findClass own = some m.cls)
    (wl : (Cond.methodLink own index y).before a0 Z = true) (wi : (Cond.instanceMethod y).before a0 Z = true) (wz : (Cond.initialized y.cls).before a0 Z = true) (wc : (Cond.code y bytes maxL none).before a0 Z = true) (hy : y.cls ≠ "java/lang/invoke/MethodHandle" ∧ y.cls ≠ "java/lang/invoke/VarHandle")
    (hM : own_Met l Z y [Cond.code y bytes maxL none] rm as' h Q) (eT : T.heap = h)
    (hf : rm.frames + 1 ≤ R.frames) (hl : W + (maxL + 11) + rm.locals ≤ R.locals) (hc : cells + rm.cells ≤ R.cells) (hs : slots + rm.slots ≤ R.slots)
    {g : JFrame} (hg : g.method = m) (hsize : g.locals.size = c.maxLocals) {argsL rest : List Value} (hlen : ∀ sig, parseMethodDescriptor y.desc = some sig → argsL.length = sig.parameters.length) (hstack : g.stack = argsL.reverse ++ .ref b :: rest)
    (hW : 2 * g.monitorRoom + (rest.map fun v => v.category).sum ≤ W) (hdg : decode c.code g.pc = .ok (.invokespecial index, 3)) (hargs : (.ref b :: argsL).toArray = as') :
    ∃ v T' Lc, Stand p l e R s m args below meth c T' (locs ++ Lc) (cells + rm.cells) (slots + rm.slots) ∧ Q v T'.heap Lc ∧ ∀ target, Steps p.tables e below (T'.setTop { g with pc := g.pc + 3, stack := v.toList ++ rest }) target → Steps p.tables e below (T.setTop g) target := by
  obtain ⟨v, _, ⟨T', L', k', n'⟩, -, X', ⟨Lc, hQ, hl', hk', hn'⟩, st⟩ := X.specialBack hx (y := y) hy1 hown (mvT hZ wl) (mvT hZ wi) (mvT hZ wc) hy (backOf (W := W) hM hZ wc wz hf hl) hg hsize (Steps.refl _) (a := b) hlen hstack hW hdg (fun _ _ => ⟨hargs, eT, hc, hs⟩)
  dsimp only [Pt.U, Pt.locs, Pt.cells, Pt.slots] at X' hl' hk' hn' st hQ
  subst hl' hk' hn'
  exact ⟨v, T', Lc, X', hQ, fun target k => st.trans k⟩
/-- the same where the callee leaves the heap as it is -/
theorem own_callI {own : String} {index : Nat} {y : MethodName} {bytes : ByteArray} {maxL : Nat} {rm : Room} {as' : Array Value} {W : Nat} {b : Addr}
    (X : Stand p l e R s m args below meth c T locs cells slots) (hx : p.tables.exec = Jvm.exec) (hZ : Z.Warmed39 s.vm) (hy1 : y.name = "<init>") (hown : s.vm.findClass own = some m.cls)
    (wl : (Cond.methodLink own index y).before a0 Z = true) (wi : (Cond.instanceMethod y).before a0 Z = true) (wz : (Cond.initialized y.cls).before a0 Z = true) (wc : (Cond.code y bytes maxL none).before a0 Z = true) (hy : y.cls ≠ "java/lang/invoke/MethodHandle" ∧ y.cls ≠ "java/lang/invoke/VarHandle")
    (hM : own_Met l Z y [Cond.code y bytes maxL none] rm as' h (own_Q none h)) (eT : T.heap = h)
    (hf : rm.frames + 1 ≤ R.frames) (hl : W + (maxL + 11) + rm.locals ≤ R.locals) (hc : cells + rm.cells ≤ R.cells) (hs : slots + rm.slots ≤ R.slots)
    {g : JFrame} (hg : g.method = m) (hsize : g.locals.size = c.maxLocals) {argsL rest : List Value} (hlen : ∀ sig, parseMethodDescriptor y.desc = some sig → argsL.length = sig.parameters.length) (hstack : g.stack = argsL.reverse ++ .ref b :: rest)
    (hW : 2 * g.monitorRoom + (rest.map fun v => v.category).sum ≤ W) (hdg : decode c.code g.pc = .ok (.invokespecial index, 3)) (hargs : (.ref b :: argsL).toArray = as') :
    ∃ T', Stand p l e R s m args below meth c T' locs (cells + rm.cells) (slots + rm.slots) ∧ T'.heap = h ∧ ∀ target, Steps p.tables e below (T'.setTop { g with pc := g.pc + 3, stack := rest }) target → Steps p.tables e below (T.setTop g) target := by
  obtain ⟨v, T', Lc, X', ⟨rfl, rfl, e'⟩, st⟩ := own_callIQ X hx hZ hy1 hown wl wi wz wc hy hM eT hf hl hc hs hg hsize hlen hstack hW hdg hargs
  rw [List.append_nil] at X'
  exact ⟨T', X', e', st⟩
/-- roads that join: the rest of the walk is told once, for every x -/
theorem own_join {α : Type} {P : Outcome → State → Prop} {g : α → JFrame} {g0 : JFrame} (X : Stand p l e R s m args below meth c T locs cells slots) (eT : T.heap = h)
    (body : ∀ (x : α) (T' : State), Stand p l e R s m args below meth c T' locs cells slots → T'.heap = h → own_Go p e below P T' (g x))
    (rest : (∀ (x : α) (T' : State), Stand p l e R s m args below meth c T' locs cells slots → T'.heap = h → own_Go p e below P T' (g x)) → own_Go p e below P T g0) : own_Go p e below P T g0 := rest body
/-- a class whose line of superclasses ends without K is none of K's, where K is a class that can be instantiated -/
theorem own_NSroot {O K : String} {n : Nat} (w : (Cond.noSuperclass O).before a0 Z = true) (wk : (Cond.instantiable K n).before a0 Z = true) (hn : O ≠ K) : NS Z O K := by
  obtain ⟨c, k, h1, h2, h3, -, -⟩ := Cond.noSuperclass_spec w
  obtain ⟨t, kt, g1, -⟩ := Cond.instantiable_spec wk
  have ne := ids_ne h1 g1 hn
  refine ⟨c, t, h1, g1, fun fuel => ?_⟩
  cases fuel with
  | zero => rfl
  | succ f => simp [Vm.isSubclassAux, ne, h2, h3]
theorem own_NSno {C S K : String} {n : Nat} (w : (Cond.superclass C S).before a0 Z = true) (wk : (Cond.instantiable K n).before a0 Z = true) (q : NS Z C K) (hn : C ≠ K) : ∃ c t, Z.vm.findClass C = some c ∧ Z.vm.findClass K = some t ∧ Z.vm.assignable c t = false := by
  obtain ⟨c, t, h0, g0, n3⟩ := q
  obtain ⟨p, k, kp, h1, h2, h3, h4, h5, -, h7⟩ := Cond.superclass_spec h0 w
  obtain ⟨t', kt, g1, g2, g5, g7, -⟩ := Cond.instantiable_spec wk
  cases g0.symm.trans g1
  have g8 : kt.isInterface = false := by simp at g7; exact g7.1
  have ne := ids_ne h0 g0 hn
  refine ⟨c, t, h0, g0, ?_⟩
  show Z.vm.assignableAux (255 + 1) c t = false
  simp [Vm.assignableAux, ne, h2, g2, h5, g5, g8, Vm.isSubclass, n3]
theorem own_len {t : Term} {a : Addr} {cl : Cell} {ty : FieldType} {z : Int32} (ev : t.eval args Z none [] Z = some (.ref a)) (A : Arr Z Z.heap a cl ty) (q : (Term.length t).eval args Z none [] Z = some (.int z)) : cl.slots.size < 2 ^ 31 ∧ cl.slots.size.toInt32 = z := by
  have ha : Z.arrayAt? a = some cl := A.fin (Vm.Alike.refl _)
  by_cases hl : cl.slots.size < 2 ^ 31
  · rw [len_f ev ha hl] at q
    exact ⟨hl, Value.int.inj (Option.some.inj q)⟩
  · exfalso
    simp [Term.eval, ev, ha, hl] at q
theorem own_size {n : Nat} {z : Int32} (q : n < 2 ^ 31) (e : n.toInt32 = z) : n = z.toNatClampNeg := by
  rw [← e]
  simp only [Int32.toNatClampNeg, len_toInt q]
  rfl
end Own
end Jvm.RoadKit
namespace Jvm.Pilot.@@N@@
open Jvm Jvm.ClassFile Sem Op Lib Jvm.Free Jvm.Stand Jvm.LawKit Jvm.RoadKit Bundle Jvm.Pilot.@@N@@.Jvm.D
theorem pn_0 : plainName "java/lang/Record" = true := by first | (simp [plainName, overriddenIn]; done) | decide +kernel
theorem d_jdk_30_method_1_code_0 : decode jdk_30_method_1_code 0 = .ok (.aload_n 0, 1) := by decide +kernel
theorem d_jdk_30_method_1_code_1 : decode jdk_30_method_1_code 1 = .ok (.invokespecial 1, 3) := by decide +kernel
theorem d_jdk_30_method_1_code_4 : decode jdk_30_method_1_code 4 = .ok (.return_, 1) := by decide +kernel
set_option maxRecDepth 65536 in
set_option maxHeartbeats 40000000 in
theorem own_rec (l : Launch) (Z : State) (a0 : Array Value) (hw : ∀ d ∈ tables_1, d.before a0 Z = true) (b : Addr) (h0 : Heap)  :
    own_Met l Z (⟨"java/lang/Record", "<init>", "()V"⟩ : MethodName) [Jvm.Cond.code (⟨"java/lang/Record", "<init>", "()V"⟩ : MethodName) jdk_30_method_1_code 1 none] ({ frames := 1, cells := 0, slots := 0, locals := 12 } : Room) #[(.ref b)] h0 (own_Q none h0) := by
  refine MetFree.of_bodySF (plainFor_of_name pn_0) hisR ?_
  intro p e s m args below meth c s₁ Bd hml0 hP hK
  obtain ⟨rfl, hZ, hh⟩ := hP
  have hx := Bd.exec
  have hby := Bd.bytes
  have hml : c.maxLocals = 1 := hml0
  have hown : s.vm.findClass "java/lang/Record" = some m.cls := findClass_of_methodNamed Bd.named
  have hnm := (name_of_methodNamed Bd.named Bd.method).1
  have hlk : meth.locks = false := BodyLoose.notSynchronized Bd
  have X0 : Stand p l e ({ frames := 1, cells := 0, slots := 0, locals := 12 } : Room) s m #[(.ref b)] below meth c s₁ [] 0 0 := Stand.of_body Bd
  have e0 : s₁.heap = h0 := by rw [← hh, Bd.state]; rfl
  show own_Go p e below (own_End s (own_Q none h0) 0 0) s₁ (entryFrame m #[(.ref b)] 1)
  refine own_start (g' := mkF m 0 #[.val (.ref b)] []) (by first | rfl | (simp [entryFrame, mkF, argsToLocals, Value.category, maxLocals]; done)) ?_
  refine own_via (T' := s₁) (g' := (mkF m 1 #[.val (.ref b)] [(.ref b)])) (fun t k => XS.aloadN X0.here hx rfl (hb hby d_jdk_30_method_1_code_0) rfl rfl k) ?_
  obtain ⟨T1, X1, e1, st1⟩ := initO X0 hx hZ hown (hw _ (List.mem_of_getElem? (i := 11) rfl)) (hw _ (List.mem_of_getElem? (i := 12) rfl)) (hw _ (List.mem_of_getElem? (i := 13) rfl)) e0 (g := (mkF m 1 #[.val (.ref b)] [(.ref b)])) rfl (by rw [hml]; rfl) rfl (hb hby d_jdk_30_method_1_code_1) (by decide) (W := 0) (by show 2 * 0 + _ ≤ _; exact Nat.le_of_eq rfl) (by decide)
  refine own_via (T' := T1) (g' := (mkF m 4 #[.val (.ref b)] [])) st1 ?_
  exact own_retV X1 hx Bd.returns hlk (hb hby d_jdk_30_method_1_code_4) (by decide) (by decide) ⟨rfl, rfl, e1⟩
theorem pn_1 : plainName "java/lang/Number" = true := by first | (simp [plainName, overriddenIn]; done) | decide +kernel
theorem d_jdk_18_method_1_code_0 : decode jdk_18_method_1_code 0 = .ok (.aload_n 0, 1) := by decide +kernel
theorem d_jdk_18_method_1_code_1 : decode jdk_18_method_1_code 1 = .ok (.invokespecial 1, 3) := by decide +kernel
theorem d_jdk_18_method_1_code_4 : decode jdk_18_method_1_code 4 = .ok (.return_, 1) := by decide +kernel
set_option maxRecDepth 65536 in
set_option maxHeartbeats 40000000 in
theorem own_num (l : Launch) (Z : State) (a0 : Array Value) (hw : ∀ d ∈ tables_1, d.before a0 Z = true) (b : Addr) (h0 : Heap)  :
    own_Met l Z (⟨"java/lang/Number", "<init>", "()V"⟩ : MethodName) [Jvm.Cond.code (⟨"java/lang/Number", "<init>", "()V"⟩ : MethodName) jdk_18_method_1_code 1 none] ({ frames := 1, cells := 0, slots := 0, locals := 12 } : Room) #[(.ref b)] h0 (own_Q none h0) := by
  refine MetFree.of_bodySF (plainFor_of_name pn_1) hisR ?_
  intro p e s m args below meth c s₁ Bd hml0 hP hK
  obtain ⟨rfl, hZ, hh⟩ := hP
  have hx := Bd.exec
  have hby := Bd.bytes
  have hml : c.maxLocals = 1 := hml0
  have hown : s.vm.findClass "java/lang/Number" = some m.cls := findClass_of_methodNamed Bd.named
  have hnm := (name_of_methodNamed Bd.named Bd.method).1
  have hlk : meth.locks = false := BodyLoose.notSynchronized Bd
  have X0 : Stand p l e ({ frames := 1, cells := 0, slots := 0, locals := 12 } : Room) s m #[(.ref b)] below meth c s₁ [] 0 0 := Stand.of_body Bd
  have e0 : s₁.heap = h0 := by rw [← hh, Bd.state]; rfl
  show own_Go p e below (own_End s (own_Q none h0) 0 0) s₁ (entryFrame m #[(.ref b)] 1)
  refine own_start (g' := mkF m 0 #[.val (.ref b)] []) (by first | rfl | (simp [entryFrame, mkF, argsToLocals, Value.category, maxLocals]; done)) ?_
  refine own_via (T' := s₁) (g' := (mkF m 1 #[.val (.ref b)] [(.ref b)])) (fun t k => XS.aloadN X0.here hx rfl (hb hby d_jdk_18_method_1_code_0) rfl rfl k) ?_
  obtain ⟨T1, X1, e1, st1⟩ := initO X0 hx hZ hown (hw _ (List.mem_of_getElem? (i := 47) rfl)) (hw _ (List.mem_of_getElem? (i := 12) rfl)) (hw _ (List.mem_of_getElem? (i := 13) rfl)) e0 (g := (mkF m 1 #[.val (.ref b)] [(.ref b)])) rfl (by rw [hml]; rfl) rfl (hb hby d_jdk_18_method_1_code_1) (by decide) (W := 0) (by show 2 * 0 + _ ≤ _; exact Nat.le_of_eq rfl) (by decide)
  refine own_via (T' := T1) (g' := (mkF m 4 #[.val (.ref b)] [])) st1 ?_
  exact own_retV X1 hx Bd.returns hlk (hb hby d_jdk_18_method_1_code_4) (by decide) (by decide) ⟨rfl, rfl, e1⟩
def own_Qr (Z : State) (b : Addr) (p1 p2 : Int32) (h0 : Heap) (n0 : Nat) (v : Option Value) (h : Heap) (L : List Loc) : Prop := v = none ∧ Fr n0 L ∧ Keep h0 h [b] ∧ Exa Z h b "com/example/lazytail/lazytail/media/Rung" ∧ Fld Z h b "com/example/lazytail/lazytail/media/Rung" "height" "I" (.int p1) ∧ Fld Z h b "com/example/lazytail/lazytail/media/Rung" "peakKbps" "I" (.int p2)
theorem pn_2 : plainName "com/example/lazytail/lazytail/media/Rung" = true := by first | (simp [plainName, overriddenIn]; done) | decide +kernel
theorem pd_6 : parseMethodDescriptor "()V" = some ⟨[], none⟩ := by decide +kernel
theorem d_prog_23_method_1_code_0 : decode prog_23_method_1_code 0 = .ok (.aload_n 0, 1) := by decide +kernel
theorem d_prog_23_method_1_code_1 : decode prog_23_method_1_code 1 = .ok (.invokespecial 1, 3) := by decide +kernel
theorem d_prog_23_method_1_code_4 : decode prog_23_method_1_code 4 = .ok (.aload_n 0, 1) := by decide +kernel
theorem d_prog_23_method_1_code_5 : decode prog_23_method_1_code 5 = .ok (.iload_n 1, 1) := by decide +kernel
theorem d_prog_23_method_1_code_6 : decode prog_23_method_1_code 6 = .ok (.putfield 7, 3) := by decide +kernel
theorem d_prog_23_method_1_code_9 : decode prog_23_method_1_code 9 = .ok (.aload_n 0, 1) := by decide +kernel
theorem d_prog_23_method_1_code_10 : decode prog_23_method_1_code 10 = .ok (.iload_n 2, 1) := by decide +kernel
theorem d_prog_23_method_1_code_11 : decode prog_23_method_1_code 11 = .ok (.putfield 13, 3) := by decide +kernel
theorem d_prog_23_method_1_code_14 : decode prog_23_method_1_code 14 = .ok (.return_, 1) := by decide +kernel
set_option maxRecDepth 65536 in
set_option maxHeartbeats 40000000 in
theorem own_cr (l : Launch) (Z : State) (a0 : Array Value) (hw : ∀ d ∈ tables_1, d.before a0 Z = true) (b : Addr) (p1 p2 : Int32) (u1 u2 : Value) (n0 : Nat) (h0 : Heap) (g_b : n0 ≤ b) (E_b : Exa Z h0 b "com/example/lazytail/lazytail/media/Rung") (F_height_b : Fld Z h0 b "com/example/lazytail/lazytail/media/Rung" "height" "I" u1) (F_peakKbps_b : Fld Z h0 b "com/example/lazytail/lazytail/media/Rung" "peakKbps" "I" u2) :
    own_Met l Z (⟨"com/example/lazytail/lazytail/media/Rung", "<init>", "(II)V"⟩ : MethodName) [Jvm.Cond.code (⟨"com/example/lazytail/lazytail/media/Rung", "<init>", "(II)V"⟩ : MethodName) prog_23_method_1_code 3 none] ({ frames := 2, cells := 0, slots := 0, locals := 24 } : Room) #[(.ref b), (.int p1), (.int p2)] h0 (own_Qr Z b p1 p2 h0 n0) := by
  refine MetFree.of_bodySF (plainFor_of_name pn_2) hisR ?_
  intro p e s m args below meth c s₁ Bd hml0 hP hK
  obtain ⟨rfl, hZ, hh⟩ := hP
  have hx := Bd.exec
  have hby := Bd.bytes
  have hml : c.maxLocals = 3 := hml0
  have hown : s.vm.findClass "com/example/lazytail/lazytail/media/Rung" = some m.cls := findClass_of_methodNamed Bd.named
  have hnm := (name_of_methodNamed Bd.named Bd.method).1
  have hlk : meth.locks = false := BodyLoose.notSynchronized Bd
  have X0 : Stand p l e ({ frames := 2, cells := 0, slots := 0, locals := 24 } : Room) s m #[(.ref b), (.int p1), (.int p2)] below meth c s₁ [] 0 0 := Stand.of_body Bd
  have e0 : s₁.heap = h0 := by rw [← hh, Bd.state]; rfl
  show own_Go p e below (own_End s (own_Qr Z b p1 p2 h0 n0) 0 0) s₁ (entryFrame m #[(.ref b), (.int p1), (.int p2)] 3)
  refine own_start (g' := mkF m 0 #[.val (.ref b), .val (.int p1), .val (.int p2)] []) (by first | rfl | (simp [entryFrame, mkF, argsToLocals, Value.category, maxLocals]; done)) ?_
  have K : Keep h0 h0 [b] := Keep.refl _ _
  have N : Fr n0 [] := Fr.nil _
  refine own_via (T' := s₁) (g' := (mkF m 1 #[.val (.ref b), .val (.int p1), .val (.int p2)] [(.ref b)])) (fun t k => XS.aloadN X0.here hx rfl (hb hby d_prog_23_method_1_code_0) rfl rfl k) ?_
  obtain ⟨T1, X1, e1, st1⟩ := own_callI (W := 0) (y := (⟨"java/lang/Record", "<init>", "()V"⟩ : MethodName)) X0 hx hZ rfl hown (hw _ (List.mem_of_getElem? (i := 6) rfl)) (hw _ (List.mem_of_getElem? (i := 7) rfl)) (hw _ (List.mem_of_getElem? (i := 9) rfl)) (hw _ (List.mem_of_getElem? (i := 10) rfl)) (by decide) (own_rec l Z a0 hw b h0) e0 (by decide) (by decide) (by decide) (by decide) (g := (mkF m 1 #[.val (.ref b), .val (.int p1), .val (.int p2)] [(.ref b)])) rfl (by rw [hml]; rfl) (argsL := []) (rest := []) (lenOf pd_6 rfl) rfl (by show 2 * 0 + _ ≤ _; exact Nat.le_of_eq rfl) (hb hby d_prog_23_method_1_code_1) rfl
  refine own_via (T' := T1) (g' := (mkF m 4 #[.val (.ref b), .val (.int p1), .val (.int p2)] [])) st1 ?_
  refine own_via (T' := T1) (g' := (mkF m 5 #[.val (.ref b), .val (.int p1), .val (.int p2)] [(.ref b)])) (fun t k => XS.aloadN X1.here hx rfl (hb hby d_prog_23_method_1_code_4) rfl rfl k) ?_
  refine own_via (T' := T1) (g' := (mkF m 6 #[.val (.ref b), .val (.int p1), .val (.int p2)] [(.int p1), (.ref b)])) (fun t k => XS.iloadN X1.here hx rfl (hb hby d_prog_23_method_1_code_5) rfl k) ?_
  obtain ⟨T2, h2, X2, e2, W2, st2⟩ := putF X1 hx hZ hown (host := "") (Or.inl (hw _ (List.mem_of_getElem? (i := 14) rfl))) Via.refl e1 F_height_b E_b (Or.inr ⟨(hw _ (List.mem_of_getElem? (i := 15) rfl)), rfl, hnm⟩) (hw _ (List.mem_of_getElem? (i := 1) rfl)) (ty := .int) (by decide) rfl rfl (g := (mkF m 6 #[.val (.ref b), .val (.int p1), .val (.int p2)] [(.int p1), (.ref b)])) rfl rfl (hb hby d_prog_23_method_1_code_6)
  have K := K.wr W2 (Or.inl (List.mem_of_getElem? (i := 0) rfl))
  have N := Fr.snoc X2 N g_b
  have E_b := E_b.wr W2
  have F_height_b := F_height_b.same W2
  have F_peakKbps_b := F_peakKbps_b.other W2 (Or.inr (slot_ne (Or.inr (hw _ (List.mem_of_getElem? (i := 17) rfl))) (Or.inr (hw _ (List.mem_of_getElem? (i := 15) rfl))) (by decide) (t := .int) (t' := .int) (by decide) (by decide)))
  refine own_via (T' := T2) (g' := (mkF m 9 #[.val (.ref b), .val (.int p1), .val (.int p2)] [])) st2 ?_
  refine own_via (T' := T2) (g' := (mkF m 10 #[.val (.ref b), .val (.int p1), .val (.int p2)] [(.ref b)])) (fun t k => XS.aloadN X2.here hx rfl (hb hby d_prog_23_method_1_code_9) rfl rfl k) ?_
  refine own_via (T' := T2) (g' := (mkF m 11 #[.val (.ref b), .val (.int p1), .val (.int p2)] [(.int p2), (.ref b)])) (fun t k => XS.iloadN X2.here hx rfl (hb hby d_prog_23_method_1_code_10) rfl k) ?_
  obtain ⟨T3, h3, X3, e3, W3, st3⟩ := putF X2 hx hZ hown (host := "") (Or.inl (hw _ (List.mem_of_getElem? (i := 16) rfl))) Via.refl e2 F_peakKbps_b E_b (Or.inr ⟨(hw _ (List.mem_of_getElem? (i := 17) rfl)), rfl, hnm⟩) (hw _ (List.mem_of_getElem? (i := 1) rfl)) (ty := .int) (by decide) rfl rfl (g := (mkF m 11 #[.val (.ref b), .val (.int p1), .val (.int p2)] [(.int p2), (.ref b)])) rfl rfl (hb hby d_prog_23_method_1_code_11)
  have K := K.wr W3 (Or.inl (List.mem_of_getElem? (i := 0) rfl))
  have N := Fr.snoc X3 N g_b
  have E_b := E_b.wr W3
  have F_height_b := F_height_b.other W3 (Or.inr (slot_ne (Or.inr (hw _ (List.mem_of_getElem? (i := 15) rfl))) (Or.inr (hw _ (List.mem_of_getElem? (i := 17) rfl))) (by decide) (t := .int) (t' := .int) (by decide) (by decide)))
  have F_peakKbps_b := F_peakKbps_b.same W3
  refine own_via (T' := T3) (g' := (mkF m 14 #[.val (.ref b), .val (.int p1), .val (.int p2)] [])) st3 ?_
  exact own_retV X3 hx Bd.returns hlk (hb hby d_prog_23_method_1_code_14) (by decide) (by decide) (by rw [e3]; exact ⟨rfl, N, K, E_b, F_height_b, F_peakKbps_b⟩)
def own_eqv (a b c d : Int32) : Int32 := if a = c ∧ b = d then 1 else 0
theorem own_eqv_comm (a b c d : Int32) : own_eqv a b c d = own_eqv c d a b := by
  have e : (a = c ∧ b = d) ↔ (c = a ∧ d = b) := ⟨fun q => ⟨q.1.symm, q.2.symm⟩, fun q => ⟨q.1.symm, q.2.symm⟩⟩
  simp only [own_eqv, e]
theorem d_prog_23_method_2_code_0 : decode prog_23_method_2_code 0 = .ok (.aload_n 1, 1) := by decide +kernel
theorem d_prog_23_method_2_code_1 : decode prog_23_method_2_code 1 = .ok (.instanceof 8, 3) := by decide +kernel
theorem d_prog_23_method_2_code_4 : decode prog_23_method_2_code 4 = .ok (.ifCond .eq 34, 3) := by decide +kernel
theorem d_prog_23_method_2_code_7 : decode prog_23_method_2_code 7 = .ok (.aload_n 1, 1) := by decide +kernel
theorem d_prog_23_method_2_code_8 : decode prog_23_method_2_code 8 = .ok (.checkcast 8, 3) := by decide +kernel
theorem d_prog_23_method_2_code_11 : decode prog_23_method_2_code 11 = .ok (.astore_n 2, 1) := by decide +kernel
theorem d_prog_23_method_2_code_12 : decode prog_23_method_2_code 12 = .ok (.aload_n 0, 1) := by decide +kernel
theorem d_prog_23_method_2_code_13 : decode prog_23_method_2_code 13 = .ok (.getfield 7, 3) := by decide +kernel
theorem d_prog_23_method_2_code_16 : decode prog_23_method_2_code 16 = .ok (.aload_n 2, 1) := by decide +kernel
theorem d_prog_23_method_2_code_17 : decode prog_23_method_2_code 17 = .ok (.getfield 7, 3) := by decide +kernel
theorem d_prog_23_method_2_code_20 : decode prog_23_method_2_code 20 = .ok (.if_icmp .ne 18, 3) := by decide +kernel
theorem d_prog_23_method_2_code_23 : decode prog_23_method_2_code 23 = .ok (.aload_n 0, 1) := by decide +kernel
theorem d_prog_23_method_2_code_24 : decode prog_23_method_2_code 24 = .ok (.getfield 13, 3) := by decide +kernel
theorem d_prog_23_method_2_code_27 : decode prog_23_method_2_code 27 = .ok (.aload_n 2, 1) := by decide +kernel
theorem d_prog_23_method_2_code_28 : decode prog_23_method_2_code 28 = .ok (.getfield 13, 3) := by decide +kernel
theorem d_prog_23_method_2_code_31 : decode prog_23_method_2_code 31 = .ok (.if_icmp .ne 7, 3) := by decide +kernel
theorem d_prog_23_method_2_code_34 : decode prog_23_method_2_code 34 = .ok (.iconst 1, 1) := by decide +kernel
theorem d_prog_23_method_2_code_35 : decode prog_23_method_2_code 35 = .ok (.goto 4, 3) := by decide +kernel
theorem d_prog_23_method_2_code_38 : decode prog_23_method_2_code 38 = .ok (.iconst 0, 1) := by decide +kernel
theorem d_prog_23_method_2_code_39 : decode prog_23_method_2_code 39 = .ok (.ireturn, 1) := by decide +kernel
set_option maxRecDepth 65536 in
set_option maxHeartbeats 40000000 in
theorem own_eq (l : Launch) (Z : State) (a0 : Array Value) (hw : ∀ d ∈ tables_1, d.before a0 Z = true) (a b : Addr) (x1 x2 y1 y2 r : Int32) (h0 : Heap) (F1 : Fld Z h0 a "com/example/lazytail/lazytail/media/Rung" "height" "I" (.int x1)) (F2 : Fld Z h0 a "com/example/lazytail/lazytail/media/Rung" "peakKbps" "I" (.int x2)) (G1 : Fld Z h0 b "com/example/lazytail/lazytail/media/Rung" "height" "I" (.int y1)) (G2 : Fld Z h0 b "com/example/lazytail/lazytail/media/Rung" "peakKbps" "I" (.int y2)) (E : Exa Z h0 b "com/example/lazytail/lazytail/media/Rung") (hr : r = own_eqv x1 x2 y1 y2) :
    own_Met l Z (⟨"com/example/lazytail/lazytail/media/Rung", "equals", "(Ljava/lang/Object;)Z"⟩ : MethodName) [Jvm.Cond.code (⟨"com/example/lazytail/lazytail/media/Rung", "equals", "(Ljava/lang/Object;)Z"⟩ : MethodName) prog_23_method_2_code 3 (some .boolean)] ({ frames := 0, cells := 0, slots := 0, locals := 0 } : Room) #[(.ref a), (.ref b)] h0 (own_Q (some (.int r)) h0) := by
  refine MetFree.of_bodySF (plainFor_of_name pn_2) hisR ?_
  intro p e s m args below meth c s₁ Bd hml0 hP hK
  obtain ⟨rfl, hZ, hh⟩ := hP
  have hx := Bd.exec
  have hby := Bd.bytes
  have hml : c.maxLocals = 3 := hml0
  have hown : s.vm.findClass "com/example/lazytail/lazytail/media/Rung" = some m.cls := findClass_of_methodNamed Bd.named
  have hnm := (name_of_methodNamed Bd.named Bd.method).1
  have hlk : meth.locks = false := BodyLoose.notSynchronized Bd
  have X0 : Stand p l e ({ frames := 0, cells := 0, slots := 0, locals := 0 } : Room) s m #[(.ref a), (.ref b)] below meth c s₁ [] 0 0 := Stand.of_body Bd
  have e0 : s₁.heap = h0 := by rw [← hh, Bd.state]; rfl
  show own_Go p e below (own_End s (own_Q (some (.int r)) h0) 0 0) s₁ (entryFrame m #[(.ref a), (.ref b)] 3)
  refine own_start (g' := mkF m 0 #[.val (.ref a), .val (.ref b), .unset] []) (by first | rfl | (simp [entryFrame, mkF, argsToLocals, Value.category, maxLocals]; done)) ?_
  refine own_via (T' := s₁) (g' := (mkF m 1 #[.val (.ref a), .val (.ref b), .unset] [(.ref b)])) (fun t k => XS.aloadN X0.here hx rfl (hb hby d_prog_23_method_2_code_0) rfl rfl k) ?_
  obtain ⟨T1, X1, e1, st1⟩ := instY X0 hx hZ hown (hw _ (List.mem_of_getElem? (i := 23) rfl)) e0 (Ins.self E) (g := (mkF m 1 #[.val (.ref a), .val (.ref b), .unset] [(.ref b)])) rfl rfl (hb hby d_prog_23_method_2_code_1)
  refine own_via (T' := T1) (g' := (mkF m 4 #[.val (.ref a), .val (.ref b), .unset] [(.int (1 : Int32))])) st1 ?_
  refine own_via (T' := T1) (g' := (mkF m 7 #[.val (.ref a), .val (.ref b), .unset] [])) (fun t k => XS.ifNo X1.here hx rfl (hb hby d_prog_23_method_2_code_4) rfl ((if0 _ _).trans (feq (by decide)).1) k) ?_
  refine own_via (T' := T1) (g' := (mkF m 8 #[.val (.ref a), .val (.ref b), .unset] [(.ref b)])) (fun t k => XS.aloadN X1.here hx rfl (hb hby d_prog_23_method_2_code_7) rfl rfl k) ?_
  obtain ⟨T2, X2, e2, st2⟩ := castY X1 hx hZ hown (hw _ (List.mem_of_getElem? (i := 23) rfl)) e1 (Ins.self E) (g := (mkF m 8 #[.val (.ref a), .val (.ref b), .unset] [(.ref b)])) rfl rfl (hb hby d_prog_23_method_2_code_8)
  refine own_via (T' := T2) (g' := (mkF m 11 #[.val (.ref a), .val (.ref b), .unset] [(.ref b)])) st2 ?_
  refine own_via (T' := T2) (g' := (mkF m 12 #[.val (.ref a), .val (.ref b), .val (.ref b)] [])) (fun t k => XS.astoreN X2.here hx rfl (hb hby d_prog_23_method_2_code_11) rfl rfl (l' := #[.val (.ref a), .val (.ref b), .val (.ref b)]) rfl k) ?_
  refine own_via (T' := T2) (g' := (mkF m 13 #[.val (.ref a), .val (.ref b), .val (.ref b)] [(.ref a)])) (fun t k => XS.aloadN X2.here hx rfl (hb hby d_prog_23_method_2_code_12) rfl rfl k) ?_
  obtain ⟨T3, X3, e3, st3⟩ := getF X2 hx hZ hown (host := "") (Or.inl (hw _ (List.mem_of_getElem? (i := 14) rfl))) Via.refl e2 F1 (g := (mkF m 13 #[.val (.ref a), .val (.ref b), .val (.ref b)] [(.ref a)])) rfl rfl (hb hby d_prog_23_method_2_code_13)
  refine own_via (T' := T3) (g' := (mkF m 16 #[.val (.ref a), .val (.ref b), .val (.ref b)] [(.int x1)])) st3 ?_
  refine own_via (T' := T3) (g' := (mkF m 17 #[.val (.ref a), .val (.ref b), .val (.ref b)] [(.ref b), (.int x1)])) (fun t k => XS.aloadN X3.here hx rfl (hb hby d_prog_23_method_2_code_16) rfl rfl k) ?_
  obtain ⟨T4, X4, e4, st4⟩ := getF X3 hx hZ hown (host := "") (Or.inl (hw _ (List.mem_of_getElem? (i := 14) rfl))) Via.refl e3 G1 (g := (mkF m 17 #[.val (.ref a), .val (.ref b), .val (.ref b)] [(.ref b), (.int x1)])) rfl rfl (hb hby d_prog_23_method_2_code_17)
  refine own_via (T' := T4) (g' := (mkF m 20 #[.val (.ref a), .val (.ref b), .val (.ref b)] [(.int y1), (.int x1)])) st4 ?_
  by_cases hc5 : x1 = y1
  · refine own_via (T' := T4) (g' := (mkF m 23 #[.val (.ref a), .val (.ref b), .val (.ref b)] [])) (fun t k => XS.icmpNo X4.here hx rfl (hb hby d_prog_23_method_2_code_20) rfl (teq hc5).2 k) ?_
    refine own_via (T' := T4) (g' := (mkF m 24 #[.val (.ref a), .val (.ref b), .val (.ref b)] [(.ref a)])) (fun t k => XS.aloadN X4.here hx rfl (hb hby d_prog_23_method_2_code_23) rfl rfl k) ?_
    obtain ⟨T6, X6, e6, st6⟩ := getF X4 hx hZ hown (host := "") (Or.inl (hw _ (List.mem_of_getElem? (i := 16) rfl))) Via.refl e4 F2 (g := (mkF m 24 #[.val (.ref a), .val (.ref b), .val (.ref b)] [(.ref a)])) rfl rfl (hb hby d_prog_23_method_2_code_24)
    refine own_via (T' := T6) (g' := (mkF m 27 #[.val (.ref a), .val (.ref b), .val (.ref b)] [(.int x2)])) st6 ?_
    refine own_via (T' := T6) (g' := (mkF m 28 #[.val (.ref a), .val (.ref b), .val (.ref b)] [(.ref b), (.int x2)])) (fun t k => XS.aloadN X6.here hx rfl (hb hby d_prog_23_method_2_code_27) rfl rfl k) ?_
    obtain ⟨T7, X7, e7, st7⟩ := getF X6 hx hZ hown (host := "") (Or.inl (hw _ (List.mem_of_getElem? (i := 16) rfl))) Via.refl e6 G2 (g := (mkF m 28 #[.val (.ref a), .val (.ref b), .val (.ref b)] [(.ref b), (.int x2)])) rfl rfl (hb hby d_prog_23_method_2_code_28)
    refine own_via (T' := T7) (g' := (mkF m 31 #[.val (.ref a), .val (.ref b), .val (.ref b)] [(.int y2), (.int x2)])) st7 ?_
    by_cases hc8 : x2 = y2
    · refine own_via (T' := T7) (g' := (mkF m 34 #[.val (.ref a), .val (.ref b), .val (.ref b)] [])) (fun t k => XS.icmpNo X7.here hx rfl (hb hby d_prog_23_method_2_code_31) rfl (teq hc8).2 k) ?_
      refine own_via (T' := T7) (g' := (mkF m 35 #[.val (.ref a), .val (.ref b), .val (.ref b)] [(.int (1 : Int32))])) (fun t k => XS.iconst X7.here hx rfl (hb hby d_prog_23_method_2_code_34) k) ?_
      refine own_via (T' := T7) (g' := (mkF m 39 #[.val (.ref a), .val (.ref b), .val (.ref b)] [(.int (1 : Int32))])) (fun t k => XS.goto X7.here hx rfl (pc0 := 35) (pc' := 39) rfl (hb hby d_prog_23_method_2_code_35) (by decide) (by decide) k) ?_
      exact own_ret (t := .boolean) X7 hx Bd.returns hlk rfl (Or.inl ⟨rfl, by simp, _, rfl⟩) (hb hby d_prog_23_method_2_code_39) (by decide) (by decide) ⟨by rw [hr]; simp [own_eqv, hc5, hc8], rfl, e7⟩
    · refine own_via (T' := T7) (g' := (mkF m 38 #[.val (.ref a), .val (.ref b), .val (.ref b)] [])) (fun t k => XS.icmpYes X7.here hx rfl (pc0 := 31) (pc' := 38) rfl (hb hby d_prog_23_method_2_code_31) rfl (feq hc8).2 (by decide) (by decide) k) ?_
      refine own_via (T' := T7) (g' := (mkF m 39 #[.val (.ref a), .val (.ref b), .val (.ref b)] [(.int (0 : Int32))])) (fun t k => XS.iconst X7.here hx rfl (hb hby d_prog_23_method_2_code_38) k) ?_
      exact own_ret (t := .boolean) X7 hx Bd.returns hlk rfl (Or.inl ⟨rfl, by simp, _, rfl⟩) (hb hby d_prog_23_method_2_code_39) (by decide) (by decide) ⟨by rw [hr]; simp [own_eqv, hc5, hc8], rfl, e7⟩
  · refine own_via (T' := T4) (g' := (mkF m 38 #[.val (.ref a), .val (.ref b), .val (.ref b)] [])) (fun t k => XS.icmpYes X4.here hx rfl (pc0 := 20) (pc' := 38) rfl (hb hby d_prog_23_method_2_code_20) rfl (feq hc5).2 (by decide) (by decide) k) ?_
    refine own_via (T' := T4) (g' := (mkF m 39 #[.val (.ref a), .val (.ref b), .val (.ref b)] [(.int (0 : Int32))])) (fun t k => XS.iconst X4.here hx rfl (hb hby d_prog_23_method_2_code_38) k) ?_
    exact own_ret (t := .boolean) X4 hx Bd.returns hlk rfl (Or.inl ⟨rfl, by simp, _, rfl⟩) (hb hby d_prog_23_method_2_code_39) (by decide) (by decide) ⟨by rw [hr]; simp [own_eqv, hc5], rfl, e4⟩
set_option maxRecDepth 65536 in
set_option maxHeartbeats 40000000 in
theorem own_eqN (l : Launch) (Z : State) (a0 : Array Value) (hw : ∀ d ∈ tables_1, d.before a0 Z = true) (a : Addr) (h0 : Heap)  :
    own_Met l Z (⟨"com/example/lazytail/lazytail/media/Rung", "equals", "(Ljava/lang/Object;)Z"⟩ : MethodName) [Jvm.Cond.code (⟨"com/example/lazytail/lazytail/media/Rung", "equals", "(Ljava/lang/Object;)Z"⟩ : MethodName) prog_23_method_2_code 3 (some .boolean)] ({ frames := 0, cells := 0, slots := 0, locals := 0 } : Room) #[(.ref a), .null] h0 (own_Q (some (.int 0)) h0) := by
  refine MetFree.of_bodySF (plainFor_of_name pn_2) hisR ?_
  intro p e s m args below meth c s₁ Bd hml0 hP hK
  obtain ⟨rfl, hZ, hh⟩ := hP
  have hx := Bd.exec
  have hby := Bd.bytes
  have hml : c.maxLocals = 3 := hml0
  have hown : s.vm.findClass "com/example/lazytail/lazytail/media/Rung" = some m.cls := findClass_of_methodNamed Bd.named
  have hnm := (name_of_methodNamed Bd.named Bd.method).1
  have hlk : meth.locks = false := BodyLoose.notSynchronized Bd
  have X0 : Stand p l e ({ frames := 0, cells := 0, slots := 0, locals := 0 } : Room) s m #[(.ref a), .null] below meth c s₁ [] 0 0 := Stand.of_body Bd
  have e0 : s₁.heap = h0 := by rw [← hh, Bd.state]; rfl
  show own_Go p e below (own_End s (own_Q (some (.int 0)) h0) 0 0) s₁ (entryFrame m #[(.ref a), .null] 3)
  refine own_start (g' := mkF m 0 #[.val (.ref a), .val .null, .unset] []) (by first | rfl | (simp [entryFrame, mkF, argsToLocals, Value.category, maxLocals]; done)) ?_
  refine own_via (T' := s₁) (g' := (mkF m 1 #[.val (.ref a), .val .null, .unset] [.null])) (fun t k => XS.aloadN X0.here hx rfl (hb hby d_prog_23_method_2_code_0) rfl rfl k) ?_
  refine own_via (T' := s₁) (g' := (mkF m 4 #[.val (.ref a), .val .null, .unset] [(.int (0 : Int32))])) (fun t k => X0.instanceofNull hx (g := (mkF m 1 #[.val (.ref a), .val .null, .unset] [.null])) rfl rfl (hb hby d_prog_23_method_2_code_1) t k) ?_
  refine own_via (T' := s₁) (g' := (mkF m 38 #[.val (.ref a), .val .null, .unset] [])) (fun t k => XS.ifYes X0.here hx rfl (pc0 := 4) (pc' := 38) rfl (hb hby d_prog_23_method_2_code_4) rfl ((if0 _ _).trans (teq rfl).1) (by decide) (by decide) k) ?_
  refine own_via (T' := s₁) (g' := (mkF m 39 #[.val (.ref a), .val .null, .unset] [(.int (0 : Int32))])) (fun t k => XS.iconst X0.here hx rfl (hb hby d_prog_23_method_2_code_38) k) ?_
  exact own_ret (t := .boolean) X0 hx Bd.returns hlk rfl (Or.inl ⟨rfl, by simp, _, rfl⟩) (hb hby d_prog_23_method_2_code_39) (by decide) (by decide) ⟨rfl, rfl, e0⟩
set_option maxRecDepth 65536 in
set_option maxHeartbeats 40000000 in
theorem own_eqI (l : Launch) (Z : State) (a0 : Array Value) (hw : ∀ d ∈ tables_1, d.before a0 Z = true) (a b : Addr) (h0 : Heap) (E : Exa Z h0 b "java/lang/Integer") :
    own_Met l Z (⟨"com/example/lazytail/lazytail/media/Rung", "equals", "(Ljava/lang/Object;)Z"⟩ : MethodName) [Jvm.Cond.code (⟨"com/example/lazytail/lazytail/media/Rung", "equals", "(Ljava/lang/Object;)Z"⟩ : MethodName) prog_23_method_2_code 3 (some .boolean)] ({ frames := 0, cells := 0, slots := 0, locals := 0 } : Room) #[(.ref a), (.ref b)] h0 (own_Q (some (.int 0)) h0) := by
  refine MetFree.of_bodySF (plainFor_of_name pn_2) hisR ?_
  intro p e s m args below meth c s₁ Bd hml0 hP hK
  obtain ⟨rfl, hZ, hh⟩ := hP
  have hx := Bd.exec
  have hby := Bd.bytes
  have hml : c.maxLocals = 3 := hml0
  have hown : s.vm.findClass "com/example/lazytail/lazytail/media/Rung" = some m.cls := findClass_of_methodNamed Bd.named
  have hnm := (name_of_methodNamed Bd.named Bd.method).1
  have hlk : meth.locks = false := BodyLoose.notSynchronized Bd
  have X0 : Stand p l e ({ frames := 0, cells := 0, slots := 0, locals := 0 } : Room) s m #[(.ref a), (.ref b)] below meth c s₁ [] 0 0 := Stand.of_body Bd
  have e0 : s₁.heap = h0 := by rw [← hh, Bd.state]; rfl
  show own_Go p e below (own_End s (own_Q (some (.int 0)) h0) 0 0) s₁ (entryFrame m #[(.ref a), (.ref b)] 3)
  refine own_start (g' := mkF m 0 #[.val (.ref a), .val (.ref b), .unset] []) (by first | rfl | (simp [entryFrame, mkF, argsToLocals, Value.category, maxLocals]; done)) ?_
  refine own_via (T' := s₁) (g' := (mkF m 1 #[.val (.ref a), .val (.ref b), .unset] [(.ref b)])) (fun t k => XS.aloadN X0.here hx rfl (hb hby d_prog_23_method_2_code_0) rfl rfl k) ?_
  obtain ⟨T1, X1, e1, st1⟩ := instNo X0 hx hZ hown (hw _ (List.mem_of_getElem? (i := 23) rfl)) e0 E (own_NSno (hw _ (List.mem_of_getElem? (i := 32) rfl)) (hw _ (List.mem_of_getElem? (i := 1) rfl)) (NS.step (hw _ (List.mem_of_getElem? (i := 32) rfl)) (NS.step (hw _ (List.mem_of_getElem? (i := 33) rfl)) (own_NSroot (hw _ (List.mem_of_getElem? (i := 34) rfl)) (hw _ (List.mem_of_getElem? (i := 1) rfl)) (by decide)) (by decide)) (by decide)) (by decide)) (g := (mkF m 1 #[.val (.ref a), .val (.ref b), .unset] [(.ref b)])) rfl rfl (hb hby d_prog_23_method_2_code_1)
  refine own_via (T' := T1) (g' := (mkF m 4 #[.val (.ref a), .val (.ref b), .unset] [(.int (0 : Int32))])) st1 ?_
  refine own_via (T' := T1) (g' := (mkF m 38 #[.val (.ref a), .val (.ref b), .unset] [])) (fun t k => XS.ifYes X1.here hx rfl (pc0 := 4) (pc' := 38) rfl (hb hby d_prog_23_method_2_code_4) rfl ((if0 _ _).trans (teq rfl).1) (by decide) (by decide) k) ?_
  refine own_via (T' := T1) (g' := (mkF m 39 #[.val (.ref a), .val (.ref b), .unset] [(.int (0 : Int32))])) (fun t k => XS.iconst X1.here hx rfl (hb hby d_prog_23_method_2_code_38) k) ?_
  exact own_ret (t := .boolean) X1 hx Bd.returns hlk rfl (Or.inl ⟨rfl, by simp, _, rfl⟩) (hb hby d_prog_23_method_2_code_39) (by decide) (by decide) ⟨rfl, rfl, e1⟩
def own_Qn (Z : State) (b : Addr) (h0 : Heap) (n0 : Nat) (v : Option Value) (h : Heap) (L : List Loc) : Prop := v = none ∧ Fr n0 L ∧ Keep h0 h [b] ∧ Exa Z h b "java/lang/Integer"
theorem pn_3 : plainName "java/lang/Integer" = true := by first | (simp [plainName, overriddenIn]; done) | decide +kernel
theorem d_jdk_33_method_23_code_0 : decode jdk_33_method_23_code 0 = .ok (.aload_n 0, 1) := by decide +kernel
theorem d_jdk_33_method_23_code_1 : decode jdk_33_method_23_code 1 = .ok (.invokespecial 202, 3) := by decide +kernel
theorem d_jdk_33_method_23_code_4 : decode jdk_33_method_23_code 4 = .ok (.aload_n 0, 1) := by decide +kernel
theorem d_jdk_33_method_23_code_5 : decode jdk_33_method_23_code 5 = .ok (.iload_n 1, 1) := by decide +kernel
theorem d_jdk_33_method_23_code_6 : decode jdk_33_method_23_code 6 = .ok (.putfield 205, 3) := by decide +kernel
theorem d_jdk_33_method_23_code_9 : decode jdk_33_method_23_code 9 = .ok (.return_, 1) := by decide +kernel
set_option maxRecDepth 65536 in
set_option maxHeartbeats 40000000 in
theorem own_cn (l : Launch) (Z : State) (a0 : Array Value) (hw : ∀ d ∈ tables_1, d.before a0 Z = true) (b : Addr) (p1 : Int32) (u1 : Value) (n0 : Nat) (h0 : Heap) (g_b : n0 ≤ b) (E_b : Exa Z h0 b "java/lang/Integer") (F_value_b : Fld Z h0 b "java/lang/Integer" "value" "I" u1) :
    own_Met l Z (⟨"java/lang/Integer", "<init>", "(I)V"⟩ : MethodName) [Jvm.Cond.code (⟨"java/lang/Integer", "<init>", "(I)V"⟩ : MethodName) jdk_33_method_23_code 2 none] ({ frames := 2, cells := 0, slots := 0, locals := 24 } : Room) #[(.ref b), (.int p1)] h0 (own_Qn Z b h0 n0) := by
  refine MetFree.of_bodySF (plainFor_of_name pn_3) hisR ?_
  intro p e s m args below meth c s₁ Bd hml0 hP hK
  obtain ⟨rfl, hZ, hh⟩ := hP
  have hx := Bd.exec
  have hby := Bd.bytes
  have hml : c.maxLocals = 2 := hml0
  have hown : s.vm.findClass "java/lang/Integer" = some m.cls := findClass_of_methodNamed Bd.named
  have hnm := (name_of_methodNamed Bd.named Bd.method).1
  have hlk : meth.locks = false := BodyLoose.notSynchronized Bd
  have X0 : Stand p l e ({ frames := 2, cells := 0, slots := 0, locals := 24 } : Room) s m #[(.ref b), (.int p1)] below meth c s₁ [] 0 0 := Stand.of_body Bd
  have e0 : s₁.heap = h0 := by rw [← hh, Bd.state]; rfl
  show own_Go p e below (own_End s (own_Qn Z b h0 n0) 0 0) s₁ (entryFrame m #[(.ref b), (.int p1)] 2)
  refine own_start (g' := mkF m 0 #[.val (.ref b), .val (.int p1)] []) (by first | rfl | (simp [entryFrame, mkF, argsToLocals, Value.category, maxLocals]; done)) ?_
  have K : Keep h0 h0 [b] := Keep.refl _ _
  have N : Fr n0 [] := Fr.nil _
  refine own_via (T' := s₁) (g' := (mkF m 1 #[.val (.ref b), .val (.int p1)] [(.ref b)])) (fun t k => XS.aloadN X0.here hx rfl (hb hby d_jdk_33_method_23_code_0) rfl rfl k) ?_
  obtain ⟨T1, X1, e1, st1⟩ := own_callI (W := 0) (y := (⟨"java/lang/Number", "<init>", "()V"⟩ : MethodName)) X0 hx hZ rfl hown (hw _ (List.mem_of_getElem? (i := 41) rfl)) (hw _ (List.mem_of_getElem? (i := 42) rfl)) (hw _ (List.mem_of_getElem? (i := 45) rfl)) (hw _ (List.mem_of_getElem? (i := 46) rfl)) (by decide) (own_num l Z a0 hw b h0) e0 (by decide) (by decide) (by decide) (by decide) (g := (mkF m 1 #[.val (.ref b), .val (.int p1)] [(.ref b)])) rfl (by rw [hml]; rfl) (argsL := []) (rest := []) (lenOf pd_6 rfl) rfl (by show 2 * 0 + _ ≤ _; exact Nat.le_of_eq rfl) (hb hby d_jdk_33_method_23_code_1) rfl
  refine own_via (T' := T1) (g' := (mkF m 4 #[.val (.ref b), .val (.int p1)] [])) st1 ?_
  refine own_via (T' := T1) (g' := (mkF m 5 #[.val (.ref b), .val (.int p1)] [(.ref b)])) (fun t k => XS.aloadN X1.here hx rfl (hb hby d_jdk_33_method_23_code_4) rfl rfl k) ?_
  refine own_via (T' := T1) (g' := (mkF m 6 #[.val (.ref b), .val (.int p1)] [(.int p1), (.ref b)])) (fun t k => XS.iloadN X1.here hx rfl (hb hby d_jdk_33_method_23_code_5) rfl k) ?_
  obtain ⟨T2, h2, X2, e2, W2, st2⟩ := putF X1 hx hZ hown (host := "") (Or.inl (hw _ (List.mem_of_getElem? (i := 48) rfl))) Via.refl e1 F_value_b E_b (Or.inr ⟨(hw _ (List.mem_of_getElem? (i := 49) rfl)), rfl, hnm⟩) (hw _ (List.mem_of_getElem? (i := 36) rfl)) (ty := .int) (by decide) rfl rfl (g := (mkF m 6 #[.val (.ref b), .val (.int p1)] [(.int p1), (.ref b)])) rfl rfl (hb hby d_jdk_33_method_23_code_6)
  have K := K.wr W2 (Or.inl (List.mem_of_getElem? (i := 0) rfl))
  have N := Fr.snoc X2 N g_b
  have E_b := E_b.wr W2
  have F_value_b := F_value_b.same W2
  refine own_via (T' := T2) (g' := (mkF m 9 #[.val (.ref b), .val (.int p1)] [])) st2 ?_
  exact own_retV X2 hx Bd.returns hlk (hb hby d_jdk_33_method_23_code_9) (by decide) (by decide) (by rw [e2]; exact ⟨rfl, N, K, E_b⟩)
def own_Qo (Z : State) (h0 : Heap) (n0 : Nat) (v : Option Value) (h : Heap) (L : List Loc) : Prop := ∃ z : Addr, v = some (.ref z) ∧ Fr n0 L ∧ Keep h0 h [] ∧ Exa Z h z "java/lang/Integer"
theorem own_ic (p : Int32) (h1 : ¬ p < (-128 : Int32)) (h2 : ¬ (127 : Int32) < p) : ¬ (p + (128 : Int32)) < 0 ∧ (p + (128 : Int32)) < (256 : Int32) := by
  have a := c_iadd p 128
  have t1 : (128 : Int32).toInt = 128 := by decide
  have t2 : (-128 : Int32).toInt = -128 := by decide
  have t3 : (127 : Int32).toInt = 127 := by decide
  have t4 : (256 : Int32).toInt = 256 := by decide
  have t5 : (0 : Int32).toInt = 0 := by decide
  have r1 := rng32 p
  have r2 := rng32 (p + 128)
  rw [Int32.lt_iff_toInt_lt] at h1 h2 ⊢
  rw [Int32.lt_iff_toInt_lt]
  omega
theorem pd_42 : parseMethodDescriptor "(I)V" = some ⟨[.int], none⟩ := by decide +kernel
theorem d_jdk_33_method_22_code_0 : decode jdk_33_method_22_code 0 = .ok (.iload_n 0, 1) := by decide +kernel
theorem d_jdk_33_method_22_code_1 : decode jdk_33_method_22_code 1 = .ok (.bipush (-128), 2) := by decide +kernel
theorem d_jdk_33_method_22_code_3 : decode jdk_33_method_22_code 3 = .ok (.if_icmp .lt 20, 3) := by decide +kernel
theorem d_jdk_33_method_22_code_6 : decode jdk_33_method_22_code 6 = .ok (.iload_n 0, 1) := by decide +kernel
theorem d_jdk_33_method_22_code_7 : decode jdk_33_method_22_code 7 = .ok (.getstatic 191, 3) := by decide +kernel
theorem d_jdk_33_method_22_code_10 : decode jdk_33_method_22_code 10 = .ok (.if_icmp .gt 13, 3) := by decide +kernel
theorem d_jdk_33_method_22_code_13 : decode jdk_33_method_22_code 13 = .ok (.getstatic 195, 3) := by decide +kernel
theorem d_jdk_33_method_22_code_16 : decode jdk_33_method_22_code 16 = .ok (.iload_n 0, 1) := by decide +kernel
theorem d_jdk_33_method_22_code_17 : decode jdk_33_method_22_code 17 = .ok (.sipush 128, 3) := by decide +kernel
theorem d_jdk_33_method_22_code_20 : decode jdk_33_method_22_code 20 = .ok (.iadd, 1) := by decide +kernel
theorem d_jdk_33_method_22_code_21 : decode jdk_33_method_22_code 21 = .ok (.aaload, 1) := by decide +kernel
theorem d_jdk_33_method_22_code_22 : decode jdk_33_method_22_code 22 = .ok (.areturn, 1) := by decide +kernel
theorem d_jdk_33_method_22_code_23 : decode jdk_33_method_22_code 23 = .ok (.new 1, 3) := by decide +kernel
theorem d_jdk_33_method_22_code_26 : decode jdk_33_method_22_code 26 = .ok (.dup, 1) := by decide +kernel
theorem d_jdk_33_method_22_code_27 : decode jdk_33_method_22_code 27 = .ok (.iload_n 0, 1) := by decide +kernel
theorem d_jdk_33_method_22_code_28 : decode jdk_33_method_22_code 28 = .ok (.invokespecial 199, 3) := by decide +kernel
theorem d_jdk_33_method_22_code_31 : decode jdk_33_method_22_code 31 = .ok (.areturn, 1) := by decide +kernel
set_option maxRecDepth 65536 in
set_option maxHeartbeats 40000000 in
theorem own_vo (l : Launch) (Z : State) (a0 : Array Value) (hw : ∀ d ∈ tables_1, d.before a0 Z = true) (p1 : Int32) (n0 : Nat) (ca : Addr) (cc : Cell) (h0 : Heap) (Z0 : n0 ≤ h0.size) (SH : Sta Z h0 "java/lang/Integer$IntegerCache" "high" "I" (.int (127 : Int32))) (SC : Sta Z h0 "java/lang/Integer$IntegerCache" "cache" "[Ljava/lang/Integer;" (.ref ca)) (AR : Arr Z h0 ca cc (.object "java/lang/Integer")) (SZ : cc.slots.size = (256 : Int32).toNatClampNeg) (BX : ∀ j : Int32, ¬ (j < 0 ∨ cc.slots.size ≤ j.toNatClampNeg) → ∃ box, cc.slots[j.toNatClampNeg]? = some (.ref box) ∧ Exa Z h0 box "java/lang/Integer") :
    own_Met l Z (⟨"java/lang/Integer", "valueOf", "(I)Ljava/lang/Integer;"⟩ : MethodName) [Jvm.Cond.code (⟨"java/lang/Integer", "valueOf", "(I)Ljava/lang/Integer;"⟩ : MethodName) jdk_33_method_22_code 1 (some (.object "java/lang/Integer"))] ({ frames := 3, cells := 1, slots := 1, locals := 41 } : Room) #[(.int p1)] h0 (own_Qo Z h0 n0) := by
  refine MetFree.of_bodySF (plainFor_of_name pn_3) hisR ?_
  intro p e s m args below meth c s₁ Bd hml0 hP hK
  obtain ⟨rfl, hZ, hh⟩ := hP
  have hx := Bd.exec
  have hby := Bd.bytes
  have hml : c.maxLocals = 1 := hml0
  have hown : s.vm.findClass "java/lang/Integer" = some m.cls := findClass_of_methodNamed Bd.named
  have hnm := (name_of_methodNamed Bd.named Bd.method).1
  have hlk : meth.locks = false := BodyLoose.notSynchronized Bd
  have X0 : Stand p l e ({ frames := 3, cells := 1, slots := 1, locals := 41 } : Room) s m #[(.int p1)] below meth c s₁ [] 0 0 := Stand.of_body Bd
  have e0 : s₁.heap = h0 := by rw [← hh, Bd.state]; rfl
  show own_Go p e below (own_End s (own_Qo Z h0 n0) 1 1) s₁ (entryFrame m #[(.int p1)] 1)
  refine own_start (g' := mkF m 0 #[.val (.int p1)] []) (by first | rfl | (simp [entryFrame, mkF, argsToLocals, Value.category, maxLocals]; done)) ?_
  have K : Keep h0 h0 [] := Keep.refl _ _
  have N : Fr n0 [] := Fr.nil _
  refine own_via (T' := s₁) (g' := (mkF m 1 #[.val (.int p1)] [(.int p1)])) (fun t k => XS.iloadN X0.here hx rfl (hb hby d_jdk_33_method_22_code_0) rfl k) ?_
  refine own_via (T' := s₁) (g' := (mkF m 3 #[.val (.int p1)] [(.int (-128 : Int32)), (.int p1)])) (fun t k => XS.bipush X0.here hx rfl (hb hby d_jdk_33_method_22_code_1) k) ?_
  by_cases hc1 : p1 < (-128 : Int32)
  · refine own_via (T' := s₁) (g' := (mkF m 23 #[.val (.int p1)] [])) (fun t k => XS.icmpYes X0.here hx rfl (pc0 := 3) (pc' := 23) rfl (hb hby d_jdk_33_method_22_code_3) rfl (tlt hc1).1 (by decide) (by decide) k) ?_
    obtain ⟨T2, h2, X2, e2, E2, A2, D2, -, st2⟩ := newO X0 hx hZ hown (hw _ (List.mem_of_getElem? (i := 35) rfl)) (hw _ (List.mem_of_getElem? (i := 36) rfl)) (hw _ (List.mem_of_getElem? (i := 27) rfl)) e0 (g := (mkF m 23 #[.val (.int p1)] [])) rfl (hb hby d_jdk_33_method_22_code_23) (by decide) (by decide)
    obtain ⟨b2, g2⟩ : ∃ z, z = h0.size := ⟨_, rfl⟩
    rw [← g2] at A2 D2 st2
    have g_b2 : n0 ≤ b2 := by rw [g2]; exact Nat.le_trans Z0 K.1
    have sz_b2 : h0.size ≤ b2 := by rw [g2]; exact K.1
    have K := K.ext E2
    have E_b2 := A2
    have F_value_b2 : Fld Z h2 b2 "java/lang/Integer" "value" "I" (.int (0 : Int32)) := D2 (Or.inr (hw _ (List.mem_of_getElem? (i := 49) rfl))) (ty := .int) (by decide)
    refine own_via (T' := T2) (g' := (mkF m 26 #[.val (.int p1)] [(.ref b2)])) st2 ?_
    refine own_via (T' := T2) (g' := (mkF m 27 #[.val (.int p1)] [(.ref b2), (.ref b2)])) (fun t k => XS.dup X2.here hx rfl (hb hby d_jdk_33_method_22_code_26) rfl rfl k) ?_
    refine own_via (T' := T2) (g' := (mkF m 28 #[.val (.int p1)] [(.int p1), (.ref b2), (.ref b2)])) (fun t k => XS.iloadN X2.here hx rfl (hb hby d_jdk_33_method_22_code_27) rfl k) ?_
    obtain ⟨v3, T3, Lc3, X3, hQ3, st3⟩ := own_callIQ (W := 1) (y := (⟨"java/lang/Integer", "<init>", "(I)V"⟩ : MethodName)) X2 hx hZ rfl hown (hw _ (List.mem_of_getElem? (i := 37) rfl)) (hw _ (List.mem_of_getElem? (i := 38) rfl)) (hw _ (List.mem_of_getElem? (i := 27) rfl)) (hw _ (List.mem_of_getElem? (i := 40) rfl)) (by decide) (own_cn l Z a0 hw b2 p1 (.int (0 : Int32)) n0 h2 g_b2 E_b2 F_value_b2) e2 (by decide) (by decide) (by decide) (by decide) (g := (mkF m 28 #[.val (.int p1)] [(.int p1), (.ref b2), (.ref b2)])) rfl (by rw [hml]; rfl) (argsL := [(.int p1)]) (rest := [(.ref b2)]) (lenOf pd_42 rfl) rfl (by show 2 * 0 + _ ≤ _; exact Nat.le_of_eq rfl) (hb hby d_jdk_33_method_22_code_28) rfl
    obtain ⟨rfl, N3, K3, E3⟩ := hQ3
    have K := K.trans K3 (allS (Or.inr sz_b2) all0)
    have N := Fr.app N N3
    have E_b2 := E_b2.keep K3
    refine own_via (T' := T3) (g' := (mkF m 31 #[.val (.int p1)] [(.ref b2)])) st3 ?_
    exact own_ret (t := (.object "java/lang/Integer")) X3 hx Bd.returns hlk rfl (Or.inr (Or.inr (Or.inr (Or.inr ⟨rfl, rfl, rfl⟩)))) (hb hby d_jdk_33_method_22_code_31) (by decide) (by decide) ⟨_, rfl, N, K, E_b2⟩
  · refine own_via (T' := s₁) (g' := (mkF m 6 #[.val (.int p1)] [])) (fun t k => XS.icmpNo X0.here hx rfl (hb hby d_jdk_33_method_22_code_3) rfl (flt hc1).1 k) ?_
    refine own_via (T' := s₁) (g' := (mkF m 7 #[.val (.int p1)] [(.int p1)])) (fun t k => XS.iloadN X0.here hx rfl (hb hby d_jdk_33_method_22_code_6) rfl k) ?_
    obtain ⟨T4, X4, e4, st4⟩ := getS2 X0 hx hZ hown (host := "") (Or.inl (hw _ (List.mem_of_getElem? (i := 29) rfl))) Via.refl e0 SH (g := (mkF m 7 #[.val (.int p1)] [(.int p1)])) rfl (hb hby d_jdk_33_method_22_code_7)
    refine own_via (T' := T4) (g' := (mkF m 10 #[.val (.int p1)] [(.int (127 : Int32)), (.int p1)])) st4 ?_
    by_cases hc5 : (127 : Int32) < p1
    · refine own_via (T' := T4) (g' := (mkF m 23 #[.val (.int p1)] [])) (fun t k => XS.icmpYes X4.here hx rfl (pc0 := 10) (pc' := 23) rfl (hb hby d_jdk_33_method_22_code_10) rfl (tlt hc5).2.2.1 (by decide) (by decide) k) ?_
      obtain ⟨T6, h6, X6, e6, E6, A6, D6, -, st6⟩ := newO X4 hx hZ hown (hw _ (List.mem_of_getElem? (i := 35) rfl)) (hw _ (List.mem_of_getElem? (i := 36) rfl)) (hw _ (List.mem_of_getElem? (i := 27) rfl)) e4 (g := (mkF m 23 #[.val (.int p1)] [])) rfl (hb hby d_jdk_33_method_22_code_23) (by decide) (by decide)
      obtain ⟨b6, g6⟩ : ∃ z, z = h0.size := ⟨_, rfl⟩
      rw [← g6] at A6 D6 st6
      have g_b6 : n0 ≤ b6 := by rw [g6]; exact Nat.le_trans Z0 K.1
      have sz_b6 : h0.size ≤ b6 := by rw [g6]; exact K.1
      have K := K.ext E6
      have E_b6 := A6
      have F_value_b6 : Fld Z h6 b6 "java/lang/Integer" "value" "I" (.int (0 : Int32)) := D6 (Or.inr (hw _ (List.mem_of_getElem? (i := 49) rfl))) (ty := .int) (by decide)
      refine own_via (T' := T6) (g' := (mkF m 26 #[.val (.int p1)] [(.ref b6)])) st6 ?_
      refine own_via (T' := T6) (g' := (mkF m 27 #[.val (.int p1)] [(.ref b6), (.ref b6)])) (fun t k => XS.dup X6.here hx rfl (hb hby d_jdk_33_method_22_code_26) rfl rfl k) ?_
      refine own_via (T' := T6) (g' := (mkF m 28 #[.val (.int p1)] [(.int p1), (.ref b6), (.ref b6)])) (fun t k => XS.iloadN X6.here hx rfl (hb hby d_jdk_33_method_22_code_27) rfl k) ?_
      obtain ⟨v7, T7, Lc7, X7, hQ7, st7⟩ := own_callIQ (W := 1) (y := (⟨"java/lang/Integer", "<init>", "(I)V"⟩ : MethodName)) X6 hx hZ rfl hown (hw _ (List.mem_of_getElem? (i := 37) rfl)) (hw _ (List.mem_of_getElem? (i := 38) rfl)) (hw _ (List.mem_of_getElem? (i := 27) rfl)) (hw _ (List.mem_of_getElem? (i := 40) rfl)) (by decide) (own_cn l Z a0 hw b6 p1 (.int (0 : Int32)) n0 h6 g_b6 E_b6 F_value_b6) e6 (by decide) (by decide) (by decide) (by decide) (g := (mkF m 28 #[.val (.int p1)] [(.int p1), (.ref b6), (.ref b6)])) rfl (by rw [hml]; rfl) (argsL := [(.int p1)]) (rest := [(.ref b6)]) (lenOf pd_42 rfl) rfl (by show 2 * 0 + _ ≤ _; exact Nat.le_of_eq rfl) (hb hby d_jdk_33_method_22_code_28) rfl
      obtain ⟨rfl, N7, K7, E7⟩ := hQ7
      have K := K.trans K7 (allS (Or.inr sz_b6) all0)
      have N := Fr.app N N7
      have E_b6 := E_b6.keep K7
      refine own_via (T' := T7) (g' := (mkF m 31 #[.val (.int p1)] [(.ref b6)])) st7 ?_
      exact own_ret (t := (.object "java/lang/Integer")) X7 hx Bd.returns hlk rfl (Or.inr (Or.inr (Or.inr (Or.inr ⟨rfl, rfl, rfl⟩)))) (hb hby d_jdk_33_method_22_code_31) (by decide) (by decide) ⟨_, rfl, N, K, E_b6⟩
    · refine own_via (T' := T4) (g' := (mkF m 13 #[.val (.int p1)] [])) (fun t k => XS.icmpNo X4.here hx rfl (hb hby d_jdk_33_method_22_code_10) rfl (flt hc5).2.2.1 k) ?_
      obtain ⟨T8, X8, e8, st8⟩ := getS2 X4 hx hZ hown (host := "") (Or.inl (hw _ (List.mem_of_getElem? (i := 31) rfl))) Via.refl e4 SC (g := (mkF m 13 #[.val (.int p1)] [])) rfl (hb hby d_jdk_33_method_22_code_13)
      refine own_via (T' := T8) (g' := (mkF m 16 #[.val (.int p1)] [(.ref ca)])) st8 ?_
      refine own_via (T' := T8) (g' := (mkF m 17 #[.val (.int p1)] [(.int p1), (.ref ca)])) (fun t k => XS.iloadN X8.here hx rfl (hb hby d_jdk_33_method_22_code_16) rfl k) ?_
      refine own_via (T' := T8) (g' := (mkF m 20 #[.val (.int p1)] [(.int (128 : Int32)), (.int p1), (.ref ca)])) (fun t k => XS.sipush X8.here hx rfl (hb hby d_jdk_33_method_22_code_17) k) ?_
      refine own_via (T' := T8) (g' := (mkF m 21 #[.val (.int p1)] [(.int (p1 + (128 : Int32))), (.ref ca)])) (fun t k => XS.iadd X8.here hx rfl (hb hby d_jdk_33_method_22_code_20) rfl k) ?_
      have hin := inb_of SZ (own_ic p1 hc1 hc5)
      obtain ⟨box, hat, EB⟩ := BX (p1 + (128 : Int32)) hin
      refine own_via (T' := T8) (g' := (mkF m 22 #[.val (.int p1)] [(.ref box)])) (fun t k => X8.aaload hx (j := (p1 + (128 : Int32))) (v := .ref box) (by rw [e8]; exact AR.1) (State.isArrayOf_alike hZ.alike AR.2.1) rfl AR.2.2 hin hat (g := (mkF m 21 #[.val (.int p1)] [(.int (p1 + (128 : Int32))), (.ref ca)])) rfl rfl (hb hby d_jdk_33_method_22_code_21) t k) ?_
      exact own_ret (t := (.object "java/lang/Integer")) X8 hx Bd.returns hlk rfl (Or.inr (Or.inr (Or.inr (Or.inr ⟨rfl, rfl, rfl⟩)))) (hb hby d_jdk_33_method_22_code_22) (by decide) (by decide) (by rw [e8]; exact ⟨_, rfl, N, K, EB⟩)
theorem own_and3 (x k : Int32) (hk : x &&& (3 : Int32) = k) : k = 0 ∨ k = 1 ∨ k = 2 ∨ k = 3 := by
  have h1 := c_mask x 3 2 (by decide) (by decide)
  rw [hk] at h1
  have h3 : k.toInt = 0 ∨ k.toInt = 1 ∨ k.toInt = 2 ∨ k.toInt = 3 := by omega
  rcases h3 with h | h | h | h
  · exact Or.inl (Int32.toInt_inj.mp (by rw [h]; decide))
  · exact Or.inr (Or.inl (Int32.toInt_inj.mp (by rw [h]; decide)))
  · exact Or.inr (Or.inr (Or.inl (Int32.toInt_inj.mp (by rw [h]; decide))))
  · exact Or.inr (Or.inr (Or.inr (Int32.toInt_inj.mp (by rw [h]; decide))))
theorem pn_4 : plainName "com/example/lazytail/lazytail/media/RungEqualsPinLaw" = true := by first | (simp [plainName, overriddenIn]; done) | decide +kernel
theorem pd_60 : parseMethodDescriptor "(II)V" = some ⟨[.int, .int], none⟩ := by decide +kernel
theorem pd_61 : parseMethodDescriptor "(Ljava/lang/Object;)Z" = some ⟨[(.object "java/lang/Object")], some .boolean⟩ := by decide +kernel
theorem pd_62 : parseMethodDescriptor "(I)Ljava/lang/Integer;" = some ⟨[.int], some (.object "java/lang/Integer")⟩ := by decide +kernel
set_option maxRecDepth 65536 in
set_option maxHeartbeats 40000000 in
theorem own_c0 (l : Launch) (Z : State) (a0 : Array Value) (hw : ∀ d ∈ tables_1, d.before a0 Z = true) (p1 p2 p3 p4 p5 : Int32) (ca : Addr) (cc : Cell) (h0 : Heap) (SH : Sta Z h0 "java/lang/Integer$IntegerCache" "high" "I" (.int (127 : Int32))) (SC : Sta Z h0 "java/lang/Integer$IntegerCache" "cache" "[Ljava/lang/Integer;" (.ref ca)) (AR : Arr Z h0 ca cc (.object "java/lang/Integer")) (SZ : cc.slots.size = (256 : Int32).toNatClampNeg) (BX : ∀ j : Int32, ¬ (j < 0 ∨ cc.slots.size ≤ j.toNatClampNeg) → ∃ box, cc.slots[j.toNatClampNeg]? = some (.ref box) ∧ Exa Z h0 box "java/lang/Integer") :
    own_Met l Z x (Jvm.Cond.code x code maxLocals ret :: tables_1) room_1 #[(.int p1), (.int p2), (.int p3), (.int p4), (.int p5)] h0 (own_F (some (.int 1)) h0.size) := by
  refine MetFree.of_bodySF (plainFor_of_name pn_4) hisR ?_
  intro p e s m args below meth c s₁ Bd hml0 hP hK
  obtain ⟨rfl, hZ, hh⟩ := hP
  have hx := Bd.exec
  have hby := Bd.bytes
  have hml : c.maxLocals = 13 := hml0
  have hown : s.vm.findClass "com/example/lazytail/lazytail/media/RungEqualsPinLaw" = some m.cls := findClass_of_methodNamed Bd.named
  have hnm := (name_of_methodNamed Bd.named Bd.method).1
  have hlk : meth.locks = false := BodyLoose.notSynchronized Bd
  have X0 : Stand p l e room_1 s m #[(.int p1), (.int p2), (.int p3), (.int p4), (.int p5)] below meth c s₁ [] 0 0 := Stand.of_body Bd
  have e0 : s₁.heap = h0 := by rw [← hh, Bd.state]; rfl
  show own_Go p e below (own_End s (own_F (some (.int 1)) h0.size) 16 128) s₁ (entryFrame m #[(.int p1), (.int p2), (.int p3), (.int p4), (.int p5)] maxLocals)
  refine own_start (g' := mkF m 0 #[.val (.int p1), .val (.int p2), .val (.int p3), .val (.int p4), .val (.int p5), .unset, .unset, .unset, .unset, .unset, .unset, .unset, .unset] []) (by first | rfl | (simp [entryFrame, mkF, argsToLocals, Value.category, maxLocals]; done)) ?_
  have K : Keep h0 h0 [] := Keep.refl _ _
  have N : Fr h0.size [] := Fr.nil _
  refine own_join (α := Int32 × Int32) X0 e0 (g := fun x => (mkF m 41 #[.val (.int p1), .val (.int p2), .val (.int p3), .val (.int p4), .val (.int p5), .val (.int x.1), .val (.int x.2), .unset, .unset, .unset, .unset, .unset, .unset] [])) (fun x TJ1 XJ1 eJ1 => ?_) (fun J1 => ?_)
  · obtain ⟨hh, qq⟩ := x
    show own_Go p e below _ TJ1 (mkF m 41 #[.val (.int p1), .val (.int p2), .val (.int p3), .val (.int p4), .val (.int p5), .val (.int hh), .val (.int qq), .unset, .unset, .unset, .unset, .unset, .unset] [])
    obtain ⟨T2, h2, X2, e2, E2, A2, D2, -, st2⟩ := newO XJ1 hx hZ hown (hw _ (List.mem_of_getElem? (i := 0) rfl)) (hw _ (List.mem_of_getElem? (i := 1) rfl)) (hw _ (List.mem_of_getElem? (i := 2) rfl)) eJ1 (g := (mkF m 41 #[.val (.int p1), .val (.int p2), .val (.int p3), .val (.int p4), .val (.int p5), .val (.int hh), .val (.int qq), .unset, .unset, .unset, .unset, .unset, .unset] [])) rfl (hb hby at_41) (by decide) (by decide)
    obtain ⟨b2, g2⟩ : ∃ z, z = h0.size := ⟨_, rfl⟩
    rw [← g2] at A2 D2 st2
    have g_b2 : h0.size ≤ b2 := by rw [g2]; exact K.1
    have sz_b2 := g_b2
    have K := K.ext E2
    have E_b2 := A2
    have F_height_b2 : Fld Z h2 b2 "com/example/lazytail/lazytail/media/Rung" "height" "I" (.int (0 : Int32)) := D2 (Or.inr (hw _ (List.mem_of_getElem? (i := 15) rfl))) (ty := .int) (by decide)
    have F_peakKbps_b2 : Fld Z h2 b2 "com/example/lazytail/lazytail/media/Rung" "peakKbps" "I" (.int (0 : Int32)) := D2 (Or.inr (hw _ (List.mem_of_getElem? (i := 17) rfl))) (ty := .int) (by decide)
    refine own_via (T' := T2) (g' := (mkF m 44 #[.val (.int p1), .val (.int p2), .val (.int p3), .val (.int p4), .val (.int p5), .val (.int hh), .val (.int qq), .unset, .unset, .unset, .unset, .unset, .unset] [(.ref b2)])) st2 ?_
    refine own_via (T' := T2) (g' := (mkF m 45 #[.val (.int p1), .val (.int p2), .val (.int p3), .val (.int p4), .val (.int p5), .val (.int hh), .val (.int qq), .unset, .unset, .unset, .unset, .unset, .unset] [(.ref b2), (.ref b2)])) (fun t k => XS.dup X2.here hx rfl (hb hby at_44) rfl rfl k) ?_
    refine own_via (T' := T2) (g' := (mkF m 46 #[.val (.int p1), .val (.int p2), .val (.int p3), .val (.int p4), .val (.int p5), .val (.int hh), .val (.int qq), .unset, .unset, .unset, .unset, .unset, .unset] [(.int p1), (.ref b2), (.ref b2)])) (fun t k => XS.iloadN X2.here hx rfl (hb hby at_45) rfl k) ?_
    refine own_via (T' := T2) (g' := (mkF m 47 #[.val (.int p1), .val (.int p2), .val (.int p3), .val (.int p4), .val (.int p5), .val (.int hh), .val (.int qq), .unset, .unset, .unset, .unset, .unset, .unset] [(.int p2), (.int p1), (.ref b2), (.ref b2)])) (fun t k => XS.iloadN X2.here hx rfl (hb hby at_46) rfl k) ?_
    obtain ⟨v3, T3, Lc3, X3, hQ3, st3⟩ := own_callIQ (W := 1) (y := (⟨"com/example/lazytail/lazytail/media/Rung", "<init>", "(II)V"⟩ : MethodName)) X2 hx hZ rfl hown (hw _ (List.mem_of_getElem? (i := 3) rfl)) (hw _ (List.mem_of_getElem? (i := 4) rfl)) (hw _ (List.mem_of_getElem? (i := 2) rfl)) (hw _ (List.mem_of_getElem? (i := 5) rfl)) (by decide) (own_cr l Z a0 hw b2 p1 p2 (.int (0 : Int32)) (.int (0 : Int32)) h0.size h2 g_b2 E_b2 F_height_b2 F_peakKbps_b2) e2 (by decide) (by decide) (by decide) (by decide) (g := (mkF m 47 #[.val (.int p1), .val (.int p2), .val (.int p3), .val (.int p4), .val (.int p5), .val (.int hh), .val (.int qq), .unset, .unset, .unset, .unset, .unset, .unset] [(.int p2), (.int p1), (.ref b2), (.ref b2)])) rfl (by rw [hml]; rfl) (argsL := [(.int p1), (.int p2)]) (rest := [(.ref b2)]) (lenOf pd_60 rfl) rfl (by show 2 * 0 + _ ≤ _; exact Nat.le_of_eq rfl) (hb hby at_47) rfl
    obtain ⟨rfl, N3, K3, E3, F3h, F3p⟩ := hQ3
    have K := K.trans K3 (allS (Or.inr sz_b2) all0)
    have N := Fr.app N N3
    have E_b2 := E_b2.keep K3
    have F_height_b2 := F3h
    have F_peakKbps_b2 := F3p
    refine own_via (T' := T3) (g' := (mkF m 50 #[.val (.int p1), .val (.int p2), .val (.int p3), .val (.int p4), .val (.int p5), .val (.int hh), .val (.int qq), .unset, .unset, .unset, .unset, .unset, .unset] [(.ref b2)])) st3 ?_
    refine own_via (T' := T3) (g' := (mkF m 52 #[.val (.int p1), .val (.int p2), .val (.int p3), .val (.int p4), .val (.int p5), .val (.int hh), .val (.int qq), .val (.ref b2), .unset, .unset, .unset, .unset, .unset] [])) (fun t k => XS.astore X3.here hx rfl (hb hby at_50) rfl rfl (l' := #[.val (.int p1), .val (.int p2), .val (.int p3), .val (.int p4), .val (.int p5), .val (.int hh), .val (.int qq), .val (.ref b2), .unset, .unset, .unset, .unset, .unset]) rfl k) ?_
    obtain ⟨T4, h4, X4, e4, E4, A4, D4, -, st4⟩ := newO X3 hx hZ hown (hw _ (List.mem_of_getElem? (i := 0) rfl)) (hw _ (List.mem_of_getElem? (i := 1) rfl)) (hw _ (List.mem_of_getElem? (i := 2) rfl)) rfl (g := (mkF m 52 #[.val (.int p1), .val (.int p2), .val (.int p3), .val (.int p4), .val (.int p5), .val (.int hh), .val (.int qq), .val (.ref b2), .unset, .unset, .unset, .unset, .unset] [])) rfl (hb hby at_52) (by decide) (by decide)
    obtain ⟨b4, g4⟩ : ∃ z, z = T3.heap.size := ⟨_, rfl⟩
    rw [← g4] at A4 D4 st4
    have g_b4 : h0.size ≤ b4 := by rw [g4]; exact K.1
    have sz_b4 := g_b4
    have ne_b2_b4 : b2 ≠ b4 := by rw [g4]; exact Nat.ne_of_lt E_b2.lt
    have ne_b4_b2 := Ne.symm ne_b2_b4
    have K := K.ext E4
    have E_b2 := E_b2.ext E4
    have F_height_b2 := F_height_b2.ext E4
    have F_peakKbps_b2 := F_peakKbps_b2.ext E4
    have E_b4 := A4
    have F_height_b4 : Fld Z h4 b4 "com/example/lazytail/lazytail/media/Rung" "height" "I" (.int (0 : Int32)) := D4 (Or.inr (hw _ (List.mem_of_getElem? (i := 15) rfl))) (ty := .int) (by decide)
    have F_peakKbps_b4 : Fld Z h4 b4 "com/example/lazytail/lazytail/media/Rung" "peakKbps" "I" (.int (0 : Int32)) := D4 (Or.inr (hw _ (List.mem_of_getElem? (i := 17) rfl))) (ty := .int) (by decide)
    refine own_via (T' := T4) (g' := (mkF m 55 #[.val (.int p1), .val (.int p2), .val (.int p3), .val (.int p4), .val (.int p5), .val (.int hh), .val (.int qq), .val (.ref b2), .unset, .unset, .unset, .unset, .unset] [(.ref b4)])) st4 ?_
    refine own_via (T' := T4) (g' := (mkF m 56 #[.val (.int p1), .val (.int p2), .val (.int p3), .val (.int p4), .val (.int p5), .val (.int hh), .val (.int qq), .val (.ref b2), .unset, .unset, .unset, .unset, .unset] [(.ref b4), (.ref b4)])) (fun t k => XS.dup X4.here hx rfl (hb hby at_55) rfl rfl k) ?_
    refine own_via (T' := T4) (g' := (mkF m 58 #[.val (.int p1), .val (.int p2), .val (.int p3), .val (.int p4), .val (.int p5), .val (.int hh), .val (.int qq), .val (.ref b2), .unset, .unset, .unset, .unset, .unset] [(.int hh), (.ref b4), (.ref b4)])) (fun t k => XS.iload X4.here hx rfl (hb hby at_56) rfl k) ?_
    refine own_via (T' := T4) (g' := (mkF m 60 #[.val (.int p1), .val (.int p2), .val (.int p3), .val (.int p4), .val (.int p5), .val (.int hh), .val (.int qq), .val (.ref b2), .unset, .unset, .unset, .unset, .unset] [(.int qq), (.int hh), (.ref b4), (.ref b4)])) (fun t k => XS.iload X4.here hx rfl (hb hby at_58) rfl k) ?_
    obtain ⟨v5, T5, Lc5, X5, hQ5, st5⟩ := own_callIQ (W := 1) (y := (⟨"com/example/lazytail/lazytail/media/Rung", "<init>", "(II)V"⟩ : MethodName)) X4 hx hZ rfl hown (hw _ (List.mem_of_getElem? (i := 3) rfl)) (hw _ (List.mem_of_getElem? (i := 4) rfl)) (hw _ (List.mem_of_getElem? (i := 2) rfl)) (hw _ (List.mem_of_getElem? (i := 5) rfl)) (by decide) (own_cr l Z a0 hw b4 hh qq (.int (0 : Int32)) (.int (0 : Int32)) h0.size h4 g_b4 E_b4 F_height_b4 F_peakKbps_b4) e4 (by decide) (by decide) (by decide) (by decide) (g := (mkF m 60 #[.val (.int p1), .val (.int p2), .val (.int p3), .val (.int p4), .val (.int p5), .val (.int hh), .val (.int qq), .val (.ref b2), .unset, .unset, .unset, .unset, .unset] [(.int qq), (.int hh), (.ref b4), (.ref b4)])) rfl (by rw [hml]; rfl) (argsL := [(.int hh), (.int qq)]) (rest := [(.ref b4)]) (lenOf pd_60 rfl) rfl (by show 2 * 0 + _ ≤ _; exact Nat.le_of_eq rfl) (hb hby at_60) rfl
    obtain ⟨rfl, N5, K5, E5, F5h, F5p⟩ := hQ5
    have K := K.trans K5 (allS (Or.inr sz_b4) all0)
    have N := Fr.app N N5
    have E_b2 := E_b2.keep K5
    have F_height_b2 := F_height_b2.keep K5 (ninS ne_b2_b4 nin0)
    have F_peakKbps_b2 := F_peakKbps_b2.keep K5 (ninS ne_b2_b4 nin0)
    have E_b4 := E_b4.keep K5
    have F_height_b4 := F5h
    have F_peakKbps_b4 := F5p
    refine own_via (T' := T5) (g' := (mkF m 63 #[.val (.int p1), .val (.int p2), .val (.int p3), .val (.int p4), .val (.int p5), .val (.int hh), .val (.int qq), .val (.ref b2), .unset, .unset, .unset, .unset, .unset] [(.ref b4)])) st5 ?_
    refine own_via (T' := T5) (g' := (mkF m 65 #[.val (.int p1), .val (.int p2), .val (.int p3), .val (.int p4), .val (.int p5), .val (.int hh), .val (.int qq), .val (.ref b2), .val (.ref b4), .unset, .unset, .unset, .unset] [])) (fun t k => XS.astore X5.here hx rfl (hb hby at_63) rfl rfl (l' := #[.val (.int p1), .val (.int p2), .val (.int p3), .val (.int p4), .val (.int p5), .val (.int hh), .val (.int qq), .val (.ref b2), .val (.ref b4), .unset, .unset, .unset, .unset]) rfl k) ?_
    refine own_via (T' := T5) (g' := (mkF m 67 #[.val (.int p1), .val (.int p2), .val (.int p3), .val (.int p4), .val (.int p5), .val (.int hh), .val (.int qq), .val (.ref b2), .val (.ref b4), .unset, .unset, .unset, .unset] [(.int p5)])) (fun t k => XS.iload X5.here hx rfl (hb hby at_65) rfl k) ?_
    refine own_via (T' := T5) (g' := (mkF m 68 #[.val (.int p1), .val (.int p2), .val (.int p3), .val (.int p4), .val (.int p5), .val (.int hh), .val (.int qq), .val (.ref b2), .val (.ref b4), .unset, .unset, .unset, .unset] [(.int (3 : Int32)), (.int p5)])) (fun t k => XS.iconst X5.here hx rfl (hb hby at_67) k) ?_
    refine own_via (T' := T5) (g' := (mkF m 69 #[.val (.int p1), .val (.int p2), .val (.int p3), .val (.int p4), .val (.int p5), .val (.int hh), .val (.int qq), .val (.ref b2), .val (.ref b4), .unset, .unset, .unset, .unset] [(.int ((p5.toUInt32 >>> ((3 : Int32) &&& 31).toUInt32).toInt32))])) (fun t k => XS.iushr X5.here hx rfl (hb hby at_68) rfl k) ?_
    refine own_via (T' := T5) (g' := (mkF m 70 #[.val (.int p1), .val (.int p2), .val (.int p3), .val (.int p4), .val (.int p5), .val (.int hh), .val (.int qq), .val (.ref b2), .val (.ref b4), .unset, .unset, .unset, .unset] [(.int (3 : Int32)), (.int ((p5.toUInt32 >>> ((3 : Int32) &&& 31).toUInt32).toInt32))])) (fun t k => XS.iconst X5.here hx rfl (hb hby at_69) k) ?_
    refine own_via (T' := T5) (g' := (mkF m 71 #[.val (.int p1), .val (.int p2), .val (.int p3), .val (.int p4), .val (.int p5), .val (.int hh), .val (.int qq), .val (.ref b2), .val (.ref b4), .unset, .unset, .unset, .unset] [(.int (((p5.toUInt32 >>> ((3 : Int32) &&& 31).toUInt32).toInt32) &&& (3 : Int32)))])) (fun t k => XS.iand X5.here hx rfl (hb hby at_70) rfl k) ?_
    generalize hwh : (((p5.toUInt32 >>> ((3 : Int32) &&& 31).toUInt32).toInt32) &&& (3 : Int32)) = wh
    rcases own_and3 _ wh hwh with rfl | rfl | rfl | rfl
    · refine own_via (T' := T5) (g' := (mkF m 73 #[.val (.int p1), .val (.int p2), .val (.int p3), .val (.int p4), .val (.int p5), .val (.int hh), .val (.int qq), .val (.ref b2), .val (.ref b4), .val (.int (0 : Int32)), .unset, .unset, .unset] [])) (fun t k => XS.istore X5.here hx rfl (hb hby at_71) rfl (l' := #[.val (.int p1), .val (.int p2), .val (.int p3), .val (.int p4), .val (.int p5), .val (.int hh), .val (.int qq), .val (.ref b2), .val (.ref b4), .val (.int (0 : Int32)), .unset, .unset, .unset]) rfl k) ?_
      refine own_via (T' := T5) (g' := (mkF m 75 #[.val (.int p1), .val (.int p2), .val (.int p3), .val (.int p4), .val (.int p5), .val (.int hh), .val (.int qq), .val (.ref b2), .val (.ref b4), .val (.int (0 : Int32)), .unset, .unset, .unset] [(.int (0 : Int32))])) (fun t k => XS.iload X5.here hx rfl (hb hby at_73) rfl k) ?_
      refine own_via (T' := T5) (g' := (mkF m 78 #[.val (.int p1), .val (.int p2), .val (.int p3), .val (.int p4), .val (.int p5), .val (.int hh), .val (.int qq), .val (.ref b2), .val (.ref b4), .val (.int (0 : Int32)), .unset, .unset, .unset] [])) (fun t k => XS.ifNo X5.here hx rfl (hb hby at_75) rfl ((if0 _ _).trans (teq rfl).2) k) ?_
      refine own_via (T' := T5) (g' := (mkF m 80 #[.val (.int p1), .val (.int p2), .val (.int p3), .val (.int p4), .val (.int p5), .val (.int hh), .val (.int qq), .val (.ref b2), .val (.ref b4), .val (.int (0 : Int32)), .unset, .unset, .unset] [(.ref b4)])) (fun t k => XS.aload X5.here hx rfl (hb hby at_78) rfl rfl k) ?_
      refine own_via (T' := T5) (g' := (mkF m 82 #[.val (.int p1), .val (.int p2), .val (.int p3), .val (.int p4), .val (.int p5), .val (.int hh), .val (.int qq), .val (.ref b2), .val (.ref b4), .val (.int (0 : Int32)), .val (.ref b4), .unset, .unset] [])) (fun t k => XS.astore X5.here hx rfl (hb hby at_80) rfl rfl (l' := #[.val (.int p1), .val (.int p2), .val (.int p3), .val (.int p4), .val (.int p5), .val (.int hh), .val (.int qq), .val (.ref b2), .val (.ref b4), .val (.int (0 : Int32)), .val (.ref b4), .unset, .unset]) rfl k) ?_
      refine own_via (T' := T5) (g' := (mkF m 83 #[.val (.int p1), .val (.int p2), .val (.int p3), .val (.int p4), .val (.int p5), .val (.int hh), .val (.int qq), .val (.ref b2), .val (.ref b4), .val (.int (0 : Int32)), .val (.ref b4), .unset, .unset] [(.int p1)])) (fun t k => XS.iloadN X5.here hx rfl (hb hby at_82) rfl k) ?_
      refine own_via (T' := T5) (g' := (mkF m 85 #[.val (.int p1), .val (.int p2), .val (.int p3), .val (.int p4), .val (.int p5), .val (.int hh), .val (.int qq), .val (.ref b2), .val (.ref b4), .val (.int (0 : Int32)), .val (.ref b4), .unset, .unset] [(.int hh), (.int p1)])) (fun t k => XS.iload X5.here hx rfl (hb hby at_83) rfl k) ?_
      by_cases hc6 : p1 = hh
      · refine own_via (T' := T5) (g' := (mkF m 88 #[.val (.int p1), .val (.int p2), .val (.int p3), .val (.int p4), .val (.int p5), .val (.int hh), .val (.int qq), .val (.ref b2), .val (.ref b4), .val (.int (0 : Int32)), .val (.ref b4), .unset, .unset] [])) (fun t k => XS.icmpNo X5.here hx rfl (hb hby at_85) rfl (teq hc6).2 k) ?_
        refine own_via (T' := T5) (g' := (mkF m 89 #[.val (.int p1), .val (.int p2), .val (.int p3), .val (.int p4), .val (.int p5), .val (.int hh), .val (.int qq), .val (.ref b2), .val (.ref b4), .val (.int (0 : Int32)), .val (.ref b4), .unset, .unset] [(.int p2)])) (fun t k => XS.iloadN X5.here hx rfl (hb hby at_88) rfl k) ?_
        refine own_via (T' := T5) (g' := (mkF m 91 #[.val (.int p1), .val (.int p2), .val (.int p3), .val (.int p4), .val (.int p5), .val (.int hh), .val (.int qq), .val (.ref b2), .val (.ref b4), .val (.int (0 : Int32)), .val (.ref b4), .unset, .unset] [(.int qq), (.int p2)])) (fun t k => XS.iload X5.here hx rfl (hb hby at_89) rfl k) ?_
        by_cases hc7 : p2 = qq
        · refine own_via (T' := T5) (g' := (mkF m 94 #[.val (.int p1), .val (.int p2), .val (.int p3), .val (.int p4), .val (.int p5), .val (.int hh), .val (.int qq), .val (.ref b2), .val (.ref b4), .val (.int (0 : Int32)), .val (.ref b4), .unset, .unset] [])) (fun t k => XS.icmpNo X5.here hx rfl (hb hby at_91) rfl (teq hc7).2 k) ?_
          refine own_via (T' := T5) (g' := (mkF m 95 #[.val (.int p1), .val (.int p2), .val (.int p3), .val (.int p4), .val (.int p5), .val (.int hh), .val (.int qq), .val (.ref b2), .val (.ref b4), .val (.int (0 : Int32)), .val (.ref b4), .unset, .unset] [(.int (1 : Int32))])) (fun t k => XS.iconst X5.here hx rfl (hb hby at_94) k) ?_
          refine own_via (T' := T5) (g' := (mkF m 99 #[.val (.int p1), .val (.int p2), .val (.int p3), .val (.int p4), .val (.int p5), .val (.int hh), .val (.int qq), .val (.ref b2), .val (.ref b4), .val (.int (0 : Int32)), .val (.ref b4), .unset, .unset] [(.int (1 : Int32))])) (fun t k => XS.goto X5.here hx rfl (pc0 := 95) (pc' := 99) rfl (hb hby at_95) (by decide) (by decide) k) ?_
          refine own_via (T' := T5) (g' := (mkF m 101 #[.val (.int p1), .val (.int p2), .val (.int p3), .val (.int p4), .val (.int p5), .val (.int hh), .val (.int qq), .val (.ref b2), .val (.ref b4), .val (.int (0 : Int32)), .val (.ref b4), .val (.int (1 : Int32)), .unset] [])) (fun t k => XS.istore X5.here hx rfl (hb hby at_99) rfl (l' := #[.val (.int p1), .val (.int p2), .val (.int p3), .val (.int p4), .val (.int p5), .val (.int hh), .val (.int qq), .val (.ref b2), .val (.ref b4), .val (.int (0 : Int32)), .val (.ref b4), .val (.int (1 : Int32)), .unset]) rfl k) ?_
          refine own_via (T' := T5) (g' := (mkF m 144 #[.val (.int p1), .val (.int p2), .val (.int p3), .val (.int p4), .val (.int p5), .val (.int hh), .val (.int qq), .val (.ref b2), .val (.ref b4), .val (.int (0 : Int32)), .val (.ref b4), .val (.int (1 : Int32)), .unset] [])) (fun t k => XS.goto X5.here hx rfl (pc0 := 101) (pc' := 144) rfl (hb hby at_101) (by decide) (by decide) k) ?_
          refine own_via (T' := T5) (g' := (mkF m 146 #[.val (.int p1), .val (.int p2), .val (.int p3), .val (.int p4), .val (.int p5), .val (.int hh), .val (.int qq), .val (.ref b2), .val (.ref b4), .val (.int (0 : Int32)), .val (.ref b4), .val (.int (1 : Int32)), .unset] [(.ref b2)])) (fun t k => XS.aload X5.here hx rfl (hb hby at_144) rfl rfl k) ?_
          refine own_via (T' := T5) (g' := (mkF m 148 #[.val (.int p1), .val (.int p2), .val (.int p3), .val (.int p4), .val (.int p5), .val (.int hh), .val (.int qq), .val (.ref b2), .val (.ref b4), .val (.int (0 : Int32)), .val (.ref b4), .val (.int (1 : Int32)), .unset] [(.ref b4), (.ref b2)])) (fun t k => XS.aload X5.here hx rfl (hb hby at_146) rfl rfl k) ?_
          obtain ⟨T8, X8, e8, st8⟩ := own_callV (W := 0) (r := (some (.int (1 : Int32)))) (y := (⟨"com/example/lazytail/lazytail/media/Rung", "equals", "(Ljava/lang/Object;)Z"⟩ : MethodName)) (z := (⟨"com/example/lazytail/lazytail/media/Rung", "equals", "(Ljava/lang/Object;)Z"⟩ : MethodName)) X5 hx hZ hown (hw _ (List.mem_of_getElem? (i := 18) rfl)) (hw _ (List.mem_of_getElem? (i := 19) rfl)) (notFace_of_selects (args := #[]) (mvT hZ (hw _ (List.mem_of_getElem? (i := 21) rfl)))) (hw _ (List.mem_of_getElem? (i := 21) rfl)) (hw _ (List.mem_of_getElem? (i := 20) rfl)) (by decide) (hw _ (List.mem_of_getElem? (i := 22) rfl)) (hw _ (List.mem_of_getElem? (i := 2) rfl)) (own_eq l Z a0 hw b2 b4 p1 p2 hh qq (1 : Int32) T5.heap F_height_b2 F_peakKbps_b2 F_height_b4 F_peakKbps_b4 E_b4 (by simp [own_eqv, hc6, hc7])) rfl E_b2 (by decide) (by decide) (by decide) (by decide) (g := (mkF m 148 #[.val (.int p1), .val (.int p2), .val (.int p3), .val (.int p4), .val (.int p5), .val (.int hh), .val (.int qq), .val (.ref b2), .val (.ref b4), .val (.int (0 : Int32)), .val (.ref b4), .val (.int (1 : Int32)), .unset] [(.ref b4), (.ref b2)])) rfl (by rw [hml]; rfl) (argsL := [(.ref b4)]) (rest := []) (lenOf pd_61 rfl) rfl (by show 2 * 0 + _ ≤ _; exact Nat.le_of_eq rfl) (hb hby at_148) rfl
          refine own_via (T' := T8) (g' := (mkF m 151 #[.val (.int p1), .val (.int p2), .val (.int p3), .val (.int p4), .val (.int p5), .val (.int hh), .val (.int qq), .val (.ref b2), .val (.ref b4), .val (.int (0 : Int32)), .val (.ref b4), .val (.int (1 : Int32)), .unset] [(.int (1 : Int32))])) st8 ?_
          refine own_via (T' := T8) (g' := (mkF m 153 #[.val (.int p1), .val (.int p2), .val (.int p3), .val (.int p4), .val (.int p5), .val (.int hh), .val (.int qq), .val (.ref b2), .val (.ref b4), .val (.int (0 : Int32)), .val (.ref b4), .val (.int (1 : Int32)), .val (.int (1 : Int32))] [])) (fun t k => XS.istore X8.here hx rfl (hb hby at_151) rfl (l' := #[.val (.int p1), .val (.int p2), .val (.int p3), .val (.int p4), .val (.int p5), .val (.int hh), .val (.int qq), .val (.ref b2), .val (.ref b4), .val (.int (0 : Int32)), .val (.ref b4), .val (.int (1 : Int32)), .val (.int (1 : Int32))]) rfl k) ?_
          refine own_via (T' := T8) (g' := (mkF m 155 #[.val (.int p1), .val (.int p2), .val (.int p3), .val (.int p4), .val (.int p5), .val (.int hh), .val (.int qq), .val (.ref b2), .val (.ref b4), .val (.int (0 : Int32)), .val (.ref b4), .val (.int (1 : Int32)), .val (.int (1 : Int32))] [(.int (1 : Int32))])) (fun t k => XS.iload X8.here hx rfl (hb hby at_153) rfl k) ?_
          refine own_via (T' := T8) (g' := (mkF m 157 #[.val (.int p1), .val (.int p2), .val (.int p3), .val (.int p4), .val (.int p5), .val (.int hh), .val (.int qq), .val (.ref b2), .val (.ref b4), .val (.int (0 : Int32)), .val (.ref b4), .val (.int (1 : Int32)), .val (.int (1 : Int32))] [(.int (1 : Int32)), (.int (1 : Int32))])) (fun t k => XS.iload X8.here hx rfl (hb hby at_155) rfl k) ?_
          refine own_via (T' := T8) (g' := (mkF m 162 #[.val (.int p1), .val (.int p2), .val (.int p3), .val (.int p4), .val (.int p5), .val (.int hh), .val (.int qq), .val (.ref b2), .val (.ref b4), .val (.int (0 : Int32)), .val (.ref b4), .val (.int (1 : Int32)), .val (.int (1 : Int32))] [])) (fun t k => XS.icmpYes X8.here hx rfl (pc0 := 157) (pc' := 162) rfl (hb hby at_157) rfl (teq rfl).1 (by decide) (by decide) k) ?_
          refine own_via (T' := T8) (g' := (mkF m 164 #[.val (.int p1), .val (.int p2), .val (.int p3), .val (.int p4), .val (.int p5), .val (.int hh), .val (.int qq), .val (.ref b2), .val (.ref b4), .val (.int (0 : Int32)), .val (.ref b4), .val (.int (1 : Int32)), .val (.int (1 : Int32))] [(.int (0 : Int32))])) (fun t k => XS.iload X8.here hx rfl (hb hby at_162) rfl k) ?_
          refine own_via (T' := T8) (g' := (mkF m 167 #[.val (.int p1), .val (.int p2), .val (.int p3), .val (.int p4), .val (.int p5), .val (.int hh), .val (.int qq), .val (.ref b2), .val (.ref b4), .val (.int (0 : Int32)), .val (.ref b4), .val (.int (1 : Int32)), .val (.int (1 : Int32))] [])) (fun t k => XS.ifNo X8.here hx rfl (hb hby at_164) rfl ((if0 _ _).trans (teq rfl).2) k) ?_
          refine own_via (T' := T8) (g' := (mkF m 169 #[.val (.int p1), .val (.int p2), .val (.int p3), .val (.int p4), .val (.int p5), .val (.int hh), .val (.int qq), .val (.ref b2), .val (.ref b4), .val (.int (0 : Int32)), .val (.ref b4), .val (.int (1 : Int32)), .val (.int (1 : Int32))] [(.ref b4)])) (fun t k => XS.aload X8.here hx rfl (hb hby at_167) rfl rfl k) ?_
          refine own_via (T' := T8) (g' := (mkF m 171 #[.val (.int p1), .val (.int p2), .val (.int p3), .val (.int p4), .val (.int p5), .val (.int hh), .val (.int qq), .val (.ref b2), .val (.ref b4), .val (.int (0 : Int32)), .val (.ref b4), .val (.int (1 : Int32)), .val (.int (1 : Int32))] [(.ref b2), (.ref b4)])) (fun t k => XS.aload X8.here hx rfl (hb hby at_169) rfl rfl k) ?_
          obtain ⟨T9, X9, e9, st9⟩ := own_callV (W := 0) (r := (some (.int (1 : Int32)))) (y := (⟨"com/example/lazytail/lazytail/media/Rung", "equals", "(Ljava/lang/Object;)Z"⟩ : MethodName)) (z := (⟨"com/example/lazytail/lazytail/media/Rung", "equals", "(Ljava/lang/Object;)Z"⟩ : MethodName)) X8 hx hZ hown (hw _ (List.mem_of_getElem? (i := 18) rfl)) (hw _ (List.mem_of_getElem? (i := 19) rfl)) (notFace_of_selects (args := #[]) (mvT hZ (hw _ (List.mem_of_getElem? (i := 21) rfl)))) (hw _ (List.mem_of_getElem? (i := 21) rfl)) (hw _ (List.mem_of_getElem? (i := 20) rfl)) (by decide) (hw _ (List.mem_of_getElem? (i := 22) rfl)) (hw _ (List.mem_of_getElem? (i := 2) rfl)) (own_eq l Z a0 hw b4 b2 hh qq p1 p2 (1 : Int32) T5.heap F_height_b4 F_peakKbps_b4 F_height_b2 F_peakKbps_b2 E_b2 (by rw [own_eqv_comm]; simp [own_eqv, hc6, hc7])) e8 E_b4 (by decide) (by decide) (by decide) (by decide) (g := (mkF m 171 #[.val (.int p1), .val (.int p2), .val (.int p3), .val (.int p4), .val (.int p5), .val (.int hh), .val (.int qq), .val (.ref b2), .val (.ref b4), .val (.int (0 : Int32)), .val (.ref b4), .val (.int (1 : Int32)), .val (.int (1 : Int32))] [(.ref b2), (.ref b4)])) rfl (by rw [hml]; rfl) (argsL := [(.ref b2)]) (rest := []) (lenOf pd_61 rfl) rfl (by show 2 * 0 + _ ≤ _; exact Nat.le_of_eq rfl) (hb hby at_171) rfl
          refine own_via (T' := T9) (g' := (mkF m 174 #[.val (.int p1), .val (.int p2), .val (.int p3), .val (.int p4), .val (.int p5), .val (.int hh), .val (.int qq), .val (.ref b2), .val (.ref b4), .val (.int (0 : Int32)), .val (.ref b4), .val (.int (1 : Int32)), .val (.int (1 : Int32))] [(.int (1 : Int32))])) st9 ?_
          refine own_via (T' := T9) (g' := (mkF m 176 #[.val (.int p1), .val (.int p2), .val (.int p3), .val (.int p4), .val (.int p5), .val (.int hh), .val (.int qq), .val (.ref b2), .val (.ref b4), .val (.int (0 : Int32)), .val (.ref b4), .val (.int (1 : Int32)), .val (.int (1 : Int32))] [(.int (1 : Int32)), (.int (1 : Int32))])) (fun t k => XS.iload X9.here hx rfl (hb hby at_174) rfl k) ?_
          refine own_via (T' := T9) (g' := (mkF m 179 #[.val (.int p1), .val (.int p2), .val (.int p3), .val (.int p4), .val (.int p5), .val (.int hh), .val (.int qq), .val (.ref b2), .val (.ref b4), .val (.int (0 : Int32)), .val (.ref b4), .val (.int (1 : Int32)), .val (.int (1 : Int32))] [])) (fun t k => XS.icmpNo X9.here hx rfl (hb hby at_176) rfl (teq rfl).2 k) ?_
          refine own_via (T' := T9) (g' := (mkF m 180 #[.val (.int p1), .val (.int p2), .val (.int p3), .val (.int p4), .val (.int p5), .val (.int hh), .val (.int qq), .val (.ref b2), .val (.ref b4), .val (.int (0 : Int32)), .val (.ref b4), .val (.int (1 : Int32)), .val (.int (1 : Int32))] [(.int (1 : Int32))])) (fun t k => XS.iconst X9.here hx rfl (hb hby at_179) k) ?_
          refine own_via (T' := T9) (g' := (mkF m 184 #[.val (.int p1), .val (.int p2), .val (.int p3), .val (.int p4), .val (.int p5), .val (.int hh), .val (.int qq), .val (.ref b2), .val (.ref b4), .val (.int (0 : Int32)), .val (.ref b4), .val (.int (1 : Int32)), .val (.int (1 : Int32))] [(.int (1 : Int32))])) (fun t k => XS.goto X9.here hx rfl (pc0 := 180) (pc' := 184) rfl (hb hby at_180) (by decide) (by decide) k) ?_
          exact own_ret (t := .boolean) X9 hx Bd.returns hlk rfl (Or.inl ⟨rfl, by simp, _, rfl⟩) (hb hby at_184) (by decide) (by decide) ⟨rfl, N⟩
        · refine own_via (T' := T5) (g' := (mkF m 98 #[.val (.int p1), .val (.int p2), .val (.int p3), .val (.int p4), .val (.int p5), .val (.int hh), .val (.int qq), .val (.ref b2), .val (.ref b4), .val (.int (0 : Int32)), .val (.ref b4), .unset, .unset] [])) (fun t k => XS.icmpYes X5.here hx rfl (pc0 := 91) (pc' := 98) rfl (hb hby at_91) rfl (feq hc7).2 (by decide) (by decide) k) ?_
          refine own_via (T' := T5) (g' := (mkF m 99 #[.val (.int p1), .val (.int p2), .val (.int p3), .val (.int p4), .val (.int p5), .val (.int hh), .val (.int qq), .val (.ref b2), .val (.ref b4), .val (.int (0 : Int32)), .val (.ref b4), .unset, .unset] [(.int (0 : Int32))])) (fun t k => XS.iconst X5.here hx rfl (hb hby at_98) k) ?_
          refine own_via (T' := T5) (g' := (mkF m 101 #[.val (.int p1), .val (.int p2), .val (.int p3), .val (.int p4), .val (.int p5), .val (.int hh), .val (.int qq), .val (.ref b2), .val (.ref b4), .val (.int (0 : Int32)), .val (.ref b4), .val (.int (0 : Int32)), .unset] [])) (fun t k => XS.istore X5.here hx rfl (hb hby at_99) rfl (l' := #[.val (.int p1), .val (.int p2), .val (.int p3), .val (.int p4), .val (.int p5), .val (.int hh), .val (.int qq), .val (.ref b2), .val (.ref b4), .val (.int (0 : Int32)), .val (.ref b4), .val (.int (0 : Int32)), .unset]) rfl k) ?_
          refine own_via (T' := T5) (g' := (mkF m 144 #[.val (.int p1), .val (.int p2), .val (.int p3), .val (.int p4), .val (.int p5), .val (.int hh), .val (.int qq), .val (.ref b2), .val (.ref b4), .val (.int (0 : Int32)), .val (.ref b4), .val (.int (0 : Int32)), .unset] [])) (fun t k => XS.goto X5.here hx rfl (pc0 := 101) (pc' := 144) rfl (hb hby at_101) (by decide) (by decide) k) ?_
          refine own_via (T' := T5) (g' := (mkF m 146 #[.val (.int p1), .val (.int p2), .val (.int p3), .val (.int p4), .val (.int p5), .val (.int hh), .val (.int qq), .val (.ref b2), .val (.ref b4), .val (.int (0 : Int32)), .val (.ref b4), .val (.int (0 : Int32)), .unset] [(.ref b2)])) (fun t k => XS.aload X5.here hx rfl (hb hby at_144) rfl rfl k) ?_
          refine own_via (T' := T5) (g' := (mkF m 148 #[.val (.int p1), .val (.int p2), .val (.int p3), .val (.int p4), .val (.int p5), .val (.int hh), .val (.int qq), .val (.ref b2), .val (.ref b4), .val (.int (0 : Int32)), .val (.ref b4), .val (.int (0 : Int32)), .unset] [(.ref b4), (.ref b2)])) (fun t k => XS.aload X5.here hx rfl (hb hby at_146) rfl rfl k) ?_
          obtain ⟨T10, X10, e10, st10⟩ := own_callV (W := 0) (r := (some (.int (0 : Int32)))) (y := (⟨"com/example/lazytail/lazytail/media/Rung", "equals", "(Ljava/lang/Object;)Z"⟩ : MethodName)) (z := (⟨"com/example/lazytail/lazytail/media/Rung", "equals", "(Ljava/lang/Object;)Z"⟩ : MethodName)) X5 hx hZ hown (hw _ (List.mem_of_getElem? (i := 18) rfl)) (hw _ (List.mem_of_getElem? (i := 19) rfl)) (notFace_of_selects (args := #[]) (mvT hZ (hw _ (List.mem_of_getElem? (i := 21) rfl)))) (hw _ (List.mem_of_getElem? (i := 21) rfl)) (hw _ (List.mem_of_getElem? (i := 20) rfl)) (by decide) (hw _ (List.mem_of_getElem? (i := 22) rfl)) (hw _ (List.mem_of_getElem? (i := 2) rfl)) (own_eq l Z a0 hw b2 b4 p1 p2 hh qq (0 : Int32) T5.heap F_height_b2 F_peakKbps_b2 F_height_b4 F_peakKbps_b4 E_b4 (by simp [own_eqv, hc6, hc7])) rfl E_b2 (by decide) (by decide) (by decide) (by decide) (g := (mkF m 148 #[.val (.int p1), .val (.int p2), .val (.int p3), .val (.int p4), .val (.int p5), .val (.int hh), .val (.int qq), .val (.ref b2), .val (.ref b4), .val (.int (0 : Int32)), .val (.ref b4), .val (.int (0 : Int32)), .unset] [(.ref b4), (.ref b2)])) rfl (by rw [hml]; rfl) (argsL := [(.ref b4)]) (rest := []) (lenOf pd_61 rfl) rfl (by show 2 * 0 + _ ≤ _; exact Nat.le_of_eq rfl) (hb hby at_148) rfl
          refine own_via (T' := T10) (g' := (mkF m 151 #[.val (.int p1), .val (.int p2), .val (.int p3), .val (.int p4), .val (.int p5), .val (.int hh), .val (.int qq), .val (.ref b2), .val (.ref b4), .val (.int (0 : Int32)), .val (.ref b4), .val (.int (0 : Int32)), .unset] [(.int (0 : Int32))])) st10 ?_
          refine own_via (T' := T10) (g' := (mkF m 153 #[.val (.int p1), .val (.int p2), .val (.int p3), .val (.int p4), .val (.int p5), .val (.int hh), .val (.int qq), .val (.ref b2), .val (.ref b4), .val (.int (0 : Int32)), .val (.ref b4), .val (.int (0 : Int32)), .val (.int (0 : Int32))] [])) (fun t k => XS.istore X10.here hx rfl (hb hby at_151) rfl (l' := #[.val (.int p1), .val (.int p2), .val (.int p3), .val (.int p4), .val (.int p5), .val (.int hh), .val (.int qq), .val (.ref b2), .val (.ref b4), .val (.int (0 : Int32)), .val (.ref b4), .val (.int (0 : Int32)), .val (.int (0 : Int32))]) rfl k) ?_
          refine own_via (T' := T10) (g' := (mkF m 155 #[.val (.int p1), .val (.int p2), .val (.int p3), .val (.int p4), .val (.int p5), .val (.int hh), .val (.int qq), .val (.ref b2), .val (.ref b4), .val (.int (0 : Int32)), .val (.ref b4), .val (.int (0 : Int32)), .val (.int (0 : Int32))] [(.int (0 : Int32))])) (fun t k => XS.iload X10.here hx rfl (hb hby at_153) rfl k) ?_
          refine own_via (T' := T10) (g' := (mkF m 157 #[.val (.int p1), .val (.int p2), .val (.int p3), .val (.int p4), .val (.int p5), .val (.int hh), .val (.int qq), .val (.ref b2), .val (.ref b4), .val (.int (0 : Int32)), .val (.ref b4), .val (.int (0 : Int32)), .val (.int (0 : Int32))] [(.int (0 : Int32)), (.int (0 : Int32))])) (fun t k => XS.iload X10.here hx rfl (hb hby at_155) rfl k) ?_
          refine own_via (T' := T10) (g' := (mkF m 162 #[.val (.int p1), .val (.int p2), .val (.int p3), .val (.int p4), .val (.int p5), .val (.int hh), .val (.int qq), .val (.ref b2), .val (.ref b4), .val (.int (0 : Int32)), .val (.ref b4), .val (.int (0 : Int32)), .val (.int (0 : Int32))] [])) (fun t k => XS.icmpYes X10.here hx rfl (pc0 := 157) (pc' := 162) rfl (hb hby at_157) rfl (teq rfl).1 (by decide) (by decide) k) ?_
          refine own_via (T' := T10) (g' := (mkF m 164 #[.val (.int p1), .val (.int p2), .val (.int p3), .val (.int p4), .val (.int p5), .val (.int hh), .val (.int qq), .val (.ref b2), .val (.ref b4), .val (.int (0 : Int32)), .val (.ref b4), .val (.int (0 : Int32)), .val (.int (0 : Int32))] [(.int (0 : Int32))])) (fun t k => XS.iload X10.here hx rfl (hb hby at_162) rfl k) ?_
          refine own_via (T' := T10) (g' := (mkF m 167 #[.val (.int p1), .val (.int p2), .val (.int p3), .val (.int p4), .val (.int p5), .val (.int hh), .val (.int qq), .val (.ref b2), .val (.ref b4), .val (.int (0 : Int32)), .val (.ref b4), .val (.int (0 : Int32)), .val (.int (0 : Int32))] [])) (fun t k => XS.ifNo X10.here hx rfl (hb hby at_164) rfl ((if0 _ _).trans (teq rfl).2) k) ?_
          refine own_via (T' := T10) (g' := (mkF m 169 #[.val (.int p1), .val (.int p2), .val (.int p3), .val (.int p4), .val (.int p5), .val (.int hh), .val (.int qq), .val (.ref b2), .val (.ref b4), .val (.int (0 : Int32)), .val (.ref b4), .val (.int (0 : Int32)), .val (.int (0 : Int32))] [(.ref b4)])) (fun t k => XS.aload X10.here hx rfl (hb hby at_167) rfl rfl k) ?_
          refine own_via (T' := T10) (g' := (mkF m 171 #[.val (.int p1), .val (.int p2), .val (.int p3), .val (.int p4), .val (.int p5), .val (.int hh), .val (.int qq), .val (.ref b2), .val (.ref b4), .val (.int (0 : Int32)), .val (.ref b4), .val (.int (0 : Int32)), .val (.int (0 : Int32))] [(.ref b2), (.ref b4)])) (fun t k => XS.aload X10.here hx rfl (hb hby at_169) rfl rfl k) ?_
          obtain ⟨T11, X11, e11, st11⟩ := own_callV (W := 0) (r := (some (.int (0 : Int32)))) (y := (⟨"com/example/lazytail/lazytail/media/Rung", "equals", "(Ljava/lang/Object;)Z"⟩ : MethodName)) (z := (⟨"com/example/lazytail/lazytail/media/Rung", "equals", "(Ljava/lang/Object;)Z"⟩ : MethodName)) X10 hx hZ hown (hw _ (List.mem_of_getElem? (i := 18) rfl)) (hw _ (List.mem_of_getElem? (i := 19) rfl)) (notFace_of_selects (args := #[]) (mvT hZ (hw _ (List.mem_of_getElem? (i := 21) rfl)))) (hw _ (List.mem_of_getElem? (i := 21) rfl)) (hw _ (List.mem_of_getElem? (i := 20) rfl)) (by decide) (hw _ (List.mem_of_getElem? (i := 22) rfl)) (hw _ (List.mem_of_getElem? (i := 2) rfl)) (own_eq l Z a0 hw b4 b2 hh qq p1 p2 (0 : Int32) T5.heap F_height_b4 F_peakKbps_b4 F_height_b2 F_peakKbps_b2 E_b2 (by rw [own_eqv_comm]; simp [own_eqv, hc6, hc7])) e10 E_b4 (by decide) (by decide) (by decide) (by decide) (g := (mkF m 171 #[.val (.int p1), .val (.int p2), .val (.int p3), .val (.int p4), .val (.int p5), .val (.int hh), .val (.int qq), .val (.ref b2), .val (.ref b4), .val (.int (0 : Int32)), .val (.ref b4), .val (.int (0 : Int32)), .val (.int (0 : Int32))] [(.ref b2), (.ref b4)])) rfl (by rw [hml]; rfl) (argsL := [(.ref b2)]) (rest := []) (lenOf pd_61 rfl) rfl (by show 2 * 0 + _ ≤ _; exact Nat.le_of_eq rfl) (hb hby at_171) rfl
          refine own_via (T' := T11) (g' := (mkF m 174 #[.val (.int p1), .val (.int p2), .val (.int p3), .val (.int p4), .val (.int p5), .val (.int hh), .val (.int qq), .val (.ref b2), .val (.ref b4), .val (.int (0 : Int32)), .val (.ref b4), .val (.int (0 : Int32)), .val (.int (0 : Int32))] [(.int (0 : Int32))])) st11 ?_
          refine own_via (T' := T11) (g' := (mkF m 176 #[.val (.int p1), .val (.int p2), .val (.int p3), .val (.int p4), .val (.int p5), .val (.int hh), .val (.int qq), .val (.ref b2), .val (.ref b4), .val (.int (0 : Int32)), .val (.ref b4), .val (.int (0 : Int32)), .val (.int (0 : Int32))] [(.int (0 : Int32)), (.int (0 : Int32))])) (fun t k => XS.iload X11.here hx rfl (hb hby at_174) rfl k) ?_
          refine own_via (T' := T11) (g' := (mkF m 179 #[.val (.int p1), .val (.int p2), .val (.int p3), .val (.int p4), .val (.int p5), .val (.int hh), .val (.int qq), .val (.ref b2), .val (.ref b4), .val (.int (0 : Int32)), .val (.ref b4), .val (.int (0 : Int32)), .val (.int (0 : Int32))] [])) (fun t k => XS.icmpNo X11.here hx rfl (hb hby at_176) rfl (teq rfl).2 k) ?_
          refine own_via (T' := T11) (g' := (mkF m 180 #[.val (.int p1), .val (.int p2), .val (.int p3), .val (.int p4), .val (.int p5), .val (.int hh), .val (.int qq), .val (.ref b2), .val (.ref b4), .val (.int (0 : Int32)), .val (.ref b4), .val (.int (0 : Int32)), .val (.int (0 : Int32))] [(.int (1 : Int32))])) (fun t k => XS.iconst X11.here hx rfl (hb hby at_179) k) ?_
          refine own_via (T' := T11) (g' := (mkF m 184 #[.val (.int p1), .val (.int p2), .val (.int p3), .val (.int p4), .val (.int p5), .val (.int hh), .val (.int qq), .val (.ref b2), .val (.ref b4), .val (.int (0 : Int32)), .val (.ref b4), .val (.int (0 : Int32)), .val (.int (0 : Int32))] [(.int (1 : Int32))])) (fun t k => XS.goto X11.here hx rfl (pc0 := 180) (pc' := 184) rfl (hb hby at_180) (by decide) (by decide) k) ?_
          exact own_ret (t := .boolean) X11 hx Bd.returns hlk rfl (Or.inl ⟨rfl, by simp, _, rfl⟩) (hb hby at_184) (by decide) (by decide) ⟨rfl, N⟩
      · refine own_via (T' := T5) (g' := (mkF m 98 #[.val (.int p1), .val (.int p2), .val (.int p3), .val (.int p4), .val (.int p5), .val (.int hh), .val (.int qq), .val (.ref b2), .val (.ref b4), .val (.int (0 : Int32)), .val (.ref b4), .unset, .unset] [])) (fun t k => XS.icmpYes X5.here hx rfl (pc0 := 85) (pc' := 98) rfl (hb hby at_85) rfl (feq hc6).2 (by decide) (by decide) k) ?_
        refine own_via (T' := T5) (g' := (mkF m 99 #[.val (.int p1), .val (.int p2), .val (.int p3), .val (.int p4), .val (.int p5), .val (.int hh), .val (.int qq), .val (.ref b2), .val (.ref b4), .val (.int (0 : Int32)), .val (.ref b4), .unset, .unset] [(.int (0 : Int32))])) (fun t k => XS.iconst X5.here hx rfl (hb hby at_98) k) ?_
        refine own_via (T' := T5) (g' := (mkF m 101 #[.val (.int p1), .val (.int p2), .val (.int p3), .val (.int p4), .val (.int p5), .val (.int hh), .val (.int qq), .val (.ref b2), .val (.ref b4), .val (.int (0 : Int32)), .val (.ref b4), .val (.int (0 : Int32)), .unset] [])) (fun t k => XS.istore X5.here hx rfl (hb hby at_99) rfl (l' := #[.val (.int p1), .val (.int p2), .val (.int p3), .val (.int p4), .val (.int p5), .val (.int hh), .val (.int qq), .val (.ref b2), .val (.ref b4), .val (.int (0 : Int32)), .val (.ref b4), .val (.int (0 : Int32)), .unset]) rfl k) ?_
        refine own_via (T' := T5) (g' := (mkF m 144 #[.val (.int p1), .val (.int p2), .val (.int p3), .val (.int p4), .val (.int p5), .val (.int hh), .val (.int qq), .val (.ref b2), .val (.ref b4), .val (.int (0 : Int32)), .val (.ref b4), .val (.int (0 : Int32)), .unset] [])) (fun t k => XS.goto X5.here hx rfl (pc0 := 101) (pc' := 144) rfl (hb hby at_101) (by decide) (by decide) k) ?_
        refine own_via (T' := T5) (g' := (mkF m 146 #[.val (.int p1), .val (.int p2), .val (.int p3), .val (.int p4), .val (.int p5), .val (.int hh), .val (.int qq), .val (.ref b2), .val (.ref b4), .val (.int (0 : Int32)), .val (.ref b4), .val (.int (0 : Int32)), .unset] [(.ref b2)])) (fun t k => XS.aload X5.here hx rfl (hb hby at_144) rfl rfl k) ?_
        refine own_via (T' := T5) (g' := (mkF m 148 #[.val (.int p1), .val (.int p2), .val (.int p3), .val (.int p4), .val (.int p5), .val (.int hh), .val (.int qq), .val (.ref b2), .val (.ref b4), .val (.int (0 : Int32)), .val (.ref b4), .val (.int (0 : Int32)), .unset] [(.ref b4), (.ref b2)])) (fun t k => XS.aload X5.here hx rfl (hb hby at_146) rfl rfl k) ?_
        obtain ⟨T12, X12, e12, st12⟩ := own_callV (W := 0) (r := (some (.int (0 : Int32)))) (y := (⟨"com/example/lazytail/lazytail/media/Rung", "equals", "(Ljava/lang/Object;)Z"⟩ : MethodName)) (z := (⟨"com/example/lazytail/lazytail/media/Rung", "equals", "(Ljava/lang/Object;)Z"⟩ : MethodName)) X5 hx hZ hown (hw _ (List.mem_of_getElem? (i := 18) rfl)) (hw _ (List.mem_of_getElem? (i := 19) rfl)) (notFace_of_selects (args := #[]) (mvT hZ (hw _ (List.mem_of_getElem? (i := 21) rfl)))) (hw _ (List.mem_of_getElem? (i := 21) rfl)) (hw _ (List.mem_of_getElem? (i := 20) rfl)) (by decide) (hw _ (List.mem_of_getElem? (i := 22) rfl)) (hw _ (List.mem_of_getElem? (i := 2) rfl)) (own_eq l Z a0 hw b2 b4 p1 p2 hh qq (0 : Int32) T5.heap F_height_b2 F_peakKbps_b2 F_height_b4 F_peakKbps_b4 E_b4 (by simp [own_eqv, hc6])) rfl E_b2 (by decide) (by decide) (by decide) (by decide) (g := (mkF m 148 #[.val (.int p1), .val (.int p2), .val (.int p3), .val (.int p4), .val (.int p5), .val (.int hh), .val (.int qq), .val (.ref b2), .val (.ref b4), .val (.int (0 : Int32)), .val (.ref b4), .val (.int (0 : Int32)), .unset] [(.ref b4), (.ref b2)])) rfl (by rw [hml]; rfl) (argsL := [(.ref b4)]) (rest := []) (lenOf pd_61 rfl) rfl (by show 2 * 0 + _ ≤ _; exact Nat.le_of_eq rfl) (hb hby at_148) rfl
        refine own_via (T' := T12) (g' := (mkF m 151 #[.val (.int p1), .val (.int p2), .val (.int p3), .val (.int p4), .val (.int p5), .val (.int hh), .val (.int qq), .val (.ref b2), .val (.ref b4), .val (.int (0 : Int32)), .val (.ref b4), .val (.int (0 : Int32)), .unset] [(.int (0 : Int32))])) st12 ?_
        refine own_via (T' := T12) (g' := (mkF m 153 #[.val (.int p1), .val (.int p2), .val (.int p3), .val (.int p4), .val (.int p5), .val (.int hh), .val (.int qq), .val (.ref b2), .val (.ref b4), .val (.int (0 : Int32)), .val (.ref b4), .val (.int (0 : Int32)), .val (.int (0 : Int32))] [])) (fun t k => XS.istore X12.here hx rfl (hb hby at_151) rfl (l' := #[.val (.int p1), .val (.int p2), .val (.int p3), .val (.int p4), .val (.int p5), .val (.int hh), .val (.int qq), .val (.ref b2), .val (.ref b4), .val (.int (0 : Int32)), .val (.ref b4), .val (.int (0 : Int32)), .val (.int (0 : Int32))]) rfl k) ?_
        refine own_via (T' := T12) (g' := (mkF m 155 #[.val (.int p1), .val (.int p2), .val (.int p3), .val (.int p4), .val (.int p5), .val (.int hh), .val (.int qq), .val (.ref b2), .val (.ref b4), .val (.int (0 : Int32)), .val (.ref b4), .val (.int (0 : Int32)), .val (.int (0 : Int32))] [(.int (0 : Int32))])) (fun t k => XS.iload X12.here hx rfl (hb hby at_153) rfl k) ?_
        refine own_via (T' := T12) (g' := (mkF m 157 #[.val (.int p1), .val (.int p2), .val (.int p3), .val (.int p4), .val (.int p5), .val (.int hh), .val (.int qq), .val (.ref b2), .val (.ref b4), .val (.int (0 : Int32)), .val (.ref b4), .val (.int (0 : Int32)), .val (.int (0 : Int32))] [(.int (0 : Int32)), (.int (0 : Int32))])) (fun t k => XS.iload X12.here hx rfl (hb hby at_155) rfl k) ?_
        refine own_via (T' := T12) (g' := (mkF m 162 #[.val (.int p1), .val (.int p2), .val (.int p3), .val (.int p4), .val (.int p5), .val (.int hh), .val (.int qq), .val (.ref b2), .val (.ref b4), .val (.int (0 : Int32)), .val (.ref b4), .val (.int (0 : Int32)), .val (.int (0 : Int32))] [])) (fun t k => XS.icmpYes X12.here hx rfl (pc0 := 157) (pc' := 162) rfl (hb hby at_157) rfl (teq rfl).1 (by decide) (by decide) k) ?_
        refine own_via (T' := T12) (g' := (mkF m 164 #[.val (.int p1), .val (.int p2), .val (.int p3), .val (.int p4), .val (.int p5), .val (.int hh), .val (.int qq), .val (.ref b2), .val (.ref b4), .val (.int (0 : Int32)), .val (.ref b4), .val (.int (0 : Int32)), .val (.int (0 : Int32))] [(.int (0 : Int32))])) (fun t k => XS.iload X12.here hx rfl (hb hby at_162) rfl k) ?_
        refine own_via (T' := T12) (g' := (mkF m 167 #[.val (.int p1), .val (.int p2), .val (.int p3), .val (.int p4), .val (.int p5), .val (.int hh), .val (.int qq), .val (.ref b2), .val (.ref b4), .val (.int (0 : Int32)), .val (.ref b4), .val (.int (0 : Int32)), .val (.int (0 : Int32))] [])) (fun t k => XS.ifNo X12.here hx rfl (hb hby at_164) rfl ((if0 _ _).trans (teq rfl).2) k) ?_
        refine own_via (T' := T12) (g' := (mkF m 169 #[.val (.int p1), .val (.int p2), .val (.int p3), .val (.int p4), .val (.int p5), .val (.int hh), .val (.int qq), .val (.ref b2), .val (.ref b4), .val (.int (0 : Int32)), .val (.ref b4), .val (.int (0 : Int32)), .val (.int (0 : Int32))] [(.ref b4)])) (fun t k => XS.aload X12.here hx rfl (hb hby at_167) rfl rfl k) ?_
        refine own_via (T' := T12) (g' := (mkF m 171 #[.val (.int p1), .val (.int p2), .val (.int p3), .val (.int p4), .val (.int p5), .val (.int hh), .val (.int qq), .val (.ref b2), .val (.ref b4), .val (.int (0 : Int32)), .val (.ref b4), .val (.int (0 : Int32)), .val (.int (0 : Int32))] [(.ref b2), (.ref b4)])) (fun t k => XS.aload X12.here hx rfl (hb hby at_169) rfl rfl k) ?_
        obtain ⟨T13, X13, e13, st13⟩ := own_callV (W := 0) (r := (some (.int (0 : Int32)))) (y := (⟨"com/example/lazytail/lazytail/media/Rung", "equals", "(Ljava/lang/Object;)Z"⟩ : MethodName)) (z := (⟨"com/example/lazytail/lazytail/media/Rung", "equals", "(Ljava/lang/Object;)Z"⟩ : MethodName)) X12 hx hZ hown (hw _ (List.mem_of_getElem? (i := 18) rfl)) (hw _ (List.mem_of_getElem? (i := 19) rfl)) (notFace_of_selects (args := #[]) (mvT hZ (hw _ (List.mem_of_getElem? (i := 21) rfl)))) (hw _ (List.mem_of_getElem? (i := 21) rfl)) (hw _ (List.mem_of_getElem? (i := 20) rfl)) (by decide) (hw _ (List.mem_of_getElem? (i := 22) rfl)) (hw _ (List.mem_of_getElem? (i := 2) rfl)) (own_eq l Z a0 hw b4 b2 hh qq p1 p2 (0 : Int32) T5.heap F_height_b4 F_peakKbps_b4 F_height_b2 F_peakKbps_b2 E_b2 (by rw [own_eqv_comm]; simp [own_eqv, hc6])) e12 E_b4 (by decide) (by decide) (by decide) (by decide) (g := (mkF m 171 #[.val (.int p1), .val (.int p2), .val (.int p3), .val (.int p4), .val (.int p5), .val (.int hh), .val (.int qq), .val (.ref b2), .val (.ref b4), .val (.int (0 : Int32)), .val (.ref b4), .val (.int (0 : Int32)), .val (.int (0 : Int32))] [(.ref b2), (.ref b4)])) rfl (by rw [hml]; rfl) (argsL := [(.ref b2)]) (rest := []) (lenOf pd_61 rfl) rfl (by show 2 * 0 + _ ≤ _; exact Nat.le_of_eq rfl) (hb hby at_171) rfl
        refine own_via (T' := T13) (g' := (mkF m 174 #[.val (.int p1), .val (.int p2), .val (.int p3), .val (.int p4), .val (.int p5), .val (.int hh), .val (.int qq), .val (.ref b2), .val (.ref b4), .val (.int (0 : Int32)), .val (.ref b4), .val (.int (0 : Int32)), .val (.int (0 : Int32))] [(.int (0 : Int32))])) st13 ?_
        refine own_via (T' := T13) (g' := (mkF m 176 #[.val (.int p1), .val (.int p2), .val (.int p3), .val (.int p4), .val (.int p5), .val (.int hh), .val (.int qq), .val (.ref b2), .val (.ref b4), .val (.int (0 : Int32)), .val (.ref b4), .val (.int (0 : Int32)), .val (.int (0 : Int32))] [(.int (0 : Int32)), (.int (0 : Int32))])) (fun t k => XS.iload X13.here hx rfl (hb hby at_174) rfl k) ?_
        refine own_via (T' := T13) (g' := (mkF m 179 #[.val (.int p1), .val (.int p2), .val (.int p3), .val (.int p4), .val (.int p5), .val (.int hh), .val (.int qq), .val (.ref b2), .val (.ref b4), .val (.int (0 : Int32)), .val (.ref b4), .val (.int (0 : Int32)), .val (.int (0 : Int32))] [])) (fun t k => XS.icmpNo X13.here hx rfl (hb hby at_176) rfl (teq rfl).2 k) ?_
        refine own_via (T' := T13) (g' := (mkF m 180 #[.val (.int p1), .val (.int p2), .val (.int p3), .val (.int p4), .val (.int p5), .val (.int hh), .val (.int qq), .val (.ref b2), .val (.ref b4), .val (.int (0 : Int32)), .val (.ref b4), .val (.int (0 : Int32)), .val (.int (0 : Int32))] [(.int (1 : Int32))])) (fun t k => XS.iconst X13.here hx rfl (hb hby at_179) k) ?_
        refine own_via (T' := T13) (g' := (mkF m 184 #[.val (.int p1), .val (.int p2), .val (.int p3), .val (.int p4), .val (.int p5), .val (.int hh), .val (.int qq), .val (.ref b2), .val (.ref b4), .val (.int (0 : Int32)), .val (.ref b4), .val (.int (0 : Int32)), .val (.int (0 : Int32))] [(.int (1 : Int32))])) (fun t k => XS.goto X13.here hx rfl (pc0 := 180) (pc' := 184) rfl (hb hby at_180) (by decide) (by decide) k) ?_
        exact own_ret (t := .boolean) X13 hx Bd.returns hlk rfl (Or.inl ⟨rfl, by simp, _, rfl⟩) (hb hby at_184) (by decide) (by decide) ⟨rfl, N⟩
    · refine own_via (T' := T5) (g' := (mkF m 73 #[.val (.int p1), .val (.int p2), .val (.int p3), .val (.int p4), .val (.int p5), .val (.int hh), .val (.int qq), .val (.ref b2), .val (.ref b4), .val (.int (1 : Int32)), .unset, .unset, .unset] [])) (fun t k => XS.istore X5.here hx rfl (hb hby at_71) rfl (l' := #[.val (.int p1), .val (.int p2), .val (.int p3), .val (.int p4), .val (.int p5), .val (.int hh), .val (.int qq), .val (.ref b2), .val (.ref b4), .val (.int (1 : Int32)), .unset, .unset, .unset]) rfl k) ?_
      refine own_via (T' := T5) (g' := (mkF m 75 #[.val (.int p1), .val (.int p2), .val (.int p3), .val (.int p4), .val (.int p5), .val (.int hh), .val (.int qq), .val (.ref b2), .val (.ref b4), .val (.int (1 : Int32)), .unset, .unset, .unset] [(.int (1 : Int32))])) (fun t k => XS.iload X5.here hx rfl (hb hby at_73) rfl k) ?_
      refine own_via (T' := T5) (g' := (mkF m 104 #[.val (.int p1), .val (.int p2), .val (.int p3), .val (.int p4), .val (.int p5), .val (.int hh), .val (.int qq), .val (.ref b2), .val (.ref b4), .val (.int (1 : Int32)), .unset, .unset, .unset] [])) (fun t k => XS.ifYes X5.here hx rfl (pc0 := 75) (pc' := 104) rfl (hb hby at_75) rfl ((if0 _ _).trans (feq (by decide)).2) (by decide) (by decide) k) ?_
      refine own_via (T' := T5) (g' := (mkF m 106 #[.val (.int p1), .val (.int p2), .val (.int p3), .val (.int p4), .val (.int p5), .val (.int hh), .val (.int qq), .val (.ref b2), .val (.ref b4), .val (.int (1 : Int32)), .unset, .unset, .unset] [(.int (1 : Int32))])) (fun t k => XS.iload X5.here hx rfl (hb hby at_104) rfl k) ?_
      refine own_via (T' := T5) (g' := (mkF m 107 #[.val (.int p1), .val (.int p2), .val (.int p3), .val (.int p4), .val (.int p5), .val (.int hh), .val (.int qq), .val (.ref b2), .val (.ref b4), .val (.int (1 : Int32)), .unset, .unset, .unset] [(.int (1 : Int32)), (.int (1 : Int32))])) (fun t k => XS.iconst X5.here hx rfl (hb hby at_106) k) ?_
      refine own_via (T' := T5) (g' := (mkF m 110 #[.val (.int p1), .val (.int p2), .val (.int p3), .val (.int p4), .val (.int p5), .val (.int hh), .val (.int qq), .val (.ref b2), .val (.ref b4), .val (.int (1 : Int32)), .unset, .unset, .unset] [])) (fun t k => XS.icmpNo X5.here hx rfl (hb hby at_107) rfl (teq rfl).2 k) ?_
      refine own_via (T' := T5) (g' := (mkF m 111 #[.val (.int p1), .val (.int p2), .val (.int p3), .val (.int p4), .val (.int p5), .val (.int hh), .val (.int qq), .val (.ref b2), .val (.ref b4), .val (.int (1 : Int32)), .unset, .unset, .unset] [.null])) (fun t k => XS.aconstNull X5.here hx rfl (hb hby at_110) k) ?_
      refine own_via (T' := T5) (g' := (mkF m 113 #[.val (.int p1), .val (.int p2), .val (.int p3), .val (.int p4), .val (.int p5), .val (.int hh), .val (.int qq), .val (.ref b2), .val (.ref b4), .val (.int (1 : Int32)), .val .null, .unset, .unset] [])) (fun t k => XS.astore X5.here hx rfl (hb hby at_111) rfl rfl (l' := #[.val (.int p1), .val (.int p2), .val (.int p3), .val (.int p4), .val (.int p5), .val (.int hh), .val (.int qq), .val (.ref b2), .val (.ref b4), .val (.int (1 : Int32)), .val .null, .unset, .unset]) rfl k) ?_
      refine own_via (T' := T5) (g' := (mkF m 114 #[.val (.int p1), .val (.int p2), .val (.int p3), .val (.int p4), .val (.int p5), .val (.int hh), .val (.int qq), .val (.ref b2), .val (.ref b4), .val (.int (1 : Int32)), .val .null, .unset, .unset] [(.int (0 : Int32))])) (fun t k => XS.iconst X5.here hx rfl (hb hby at_113) k) ?_
      refine own_via (T' := T5) (g' := (mkF m 116 #[.val (.int p1), .val (.int p2), .val (.int p3), .val (.int p4), .val (.int p5), .val (.int hh), .val (.int qq), .val (.ref b2), .val (.ref b4), .val (.int (1 : Int32)), .val .null, .val (.int (0 : Int32)), .unset] [])) (fun t k => XS.istore X5.here hx rfl (hb hby at_114) rfl (l' := #[.val (.int p1), .val (.int p2), .val (.int p3), .val (.int p4), .val (.int p5), .val (.int hh), .val (.int qq), .val (.ref b2), .val (.ref b4), .val (.int (1 : Int32)), .val .null, .val (.int (0 : Int32)), .unset]) rfl k) ?_
      refine own_via (T' := T5) (g' := (mkF m 144 #[.val (.int p1), .val (.int p2), .val (.int p3), .val (.int p4), .val (.int p5), .val (.int hh), .val (.int qq), .val (.ref b2), .val (.ref b4), .val (.int (1 : Int32)), .val .null, .val (.int (0 : Int32)), .unset] [])) (fun t k => XS.goto X5.here hx rfl (pc0 := 116) (pc' := 144) rfl (hb hby at_116) (by decide) (by decide) k) ?_
      refine own_via (T' := T5) (g' := (mkF m 146 #[.val (.int p1), .val (.int p2), .val (.int p3), .val (.int p4), .val (.int p5), .val (.int hh), .val (.int qq), .val (.ref b2), .val (.ref b4), .val (.int (1 : Int32)), .val .null, .val (.int (0 : Int32)), .unset] [(.ref b2)])) (fun t k => XS.aload X5.here hx rfl (hb hby at_144) rfl rfl k) ?_
      refine own_via (T' := T5) (g' := (mkF m 148 #[.val (.int p1), .val (.int p2), .val (.int p3), .val (.int p4), .val (.int p5), .val (.int hh), .val (.int qq), .val (.ref b2), .val (.ref b4), .val (.int (1 : Int32)), .val .null, .val (.int (0 : Int32)), .unset] [.null, (.ref b2)])) (fun t k => XS.aload X5.here hx rfl (hb hby at_146) rfl rfl k) ?_
      obtain ⟨T14, X14, e14, st14⟩ := own_callV (W := 0) (r := (some (.int (0 : Int32)))) (y := (⟨"com/example/lazytail/lazytail/media/Rung", "equals", "(Ljava/lang/Object;)Z"⟩ : MethodName)) (z := (⟨"com/example/lazytail/lazytail/media/Rung", "equals", "(Ljava/lang/Object;)Z"⟩ : MethodName)) X5 hx hZ hown (hw _ (List.mem_of_getElem? (i := 18) rfl)) (hw _ (List.mem_of_getElem? (i := 19) rfl)) (notFace_of_selects (args := #[]) (mvT hZ (hw _ (List.mem_of_getElem? (i := 21) rfl)))) (hw _ (List.mem_of_getElem? (i := 21) rfl)) (hw _ (List.mem_of_getElem? (i := 20) rfl)) (by decide) (hw _ (List.mem_of_getElem? (i := 22) rfl)) (hw _ (List.mem_of_getElem? (i := 2) rfl)) (own_eqN l Z a0 hw b2 T5.heap) rfl E_b2 (by decide) (by decide) (by decide) (by decide) (g := (mkF m 148 #[.val (.int p1), .val (.int p2), .val (.int p3), .val (.int p4), .val (.int p5), .val (.int hh), .val (.int qq), .val (.ref b2), .val (.ref b4), .val (.int (1 : Int32)), .val .null, .val (.int (0 : Int32)), .unset] [.null, (.ref b2)])) rfl (by rw [hml]; rfl) (argsL := [.null]) (rest := []) (lenOf pd_61 rfl) rfl (by show 2 * 0 + _ ≤ _; exact Nat.le_of_eq rfl) (hb hby at_148) rfl
      refine own_via (T' := T14) (g' := (mkF m 151 #[.val (.int p1), .val (.int p2), .val (.int p3), .val (.int p4), .val (.int p5), .val (.int hh), .val (.int qq), .val (.ref b2), .val (.ref b4), .val (.int (1 : Int32)), .val .null, .val (.int (0 : Int32)), .unset] [(.int (0 : Int32))])) st14 ?_
      refine own_via (T' := T14) (g' := (mkF m 153 #[.val (.int p1), .val (.int p2), .val (.int p3), .val (.int p4), .val (.int p5), .val (.int hh), .val (.int qq), .val (.ref b2), .val (.ref b4), .val (.int (1 : Int32)), .val .null, .val (.int (0 : Int32)), .val (.int (0 : Int32))] [])) (fun t k => XS.istore X14.here hx rfl (hb hby at_151) rfl (l' := #[.val (.int p1), .val (.int p2), .val (.int p3), .val (.int p4), .val (.int p5), .val (.int hh), .val (.int qq), .val (.ref b2), .val (.ref b4), .val (.int (1 : Int32)), .val .null, .val (.int (0 : Int32)), .val (.int (0 : Int32))]) rfl k) ?_
      refine own_via (T' := T14) (g' := (mkF m 155 #[.val (.int p1), .val (.int p2), .val (.int p3), .val (.int p4), .val (.int p5), .val (.int hh), .val (.int qq), .val (.ref b2), .val (.ref b4), .val (.int (1 : Int32)), .val .null, .val (.int (0 : Int32)), .val (.int (0 : Int32))] [(.int (0 : Int32))])) (fun t k => XS.iload X14.here hx rfl (hb hby at_153) rfl k) ?_
      refine own_via (T' := T14) (g' := (mkF m 157 #[.val (.int p1), .val (.int p2), .val (.int p3), .val (.int p4), .val (.int p5), .val (.int hh), .val (.int qq), .val (.ref b2), .val (.ref b4), .val (.int (1 : Int32)), .val .null, .val (.int (0 : Int32)), .val (.int (0 : Int32))] [(.int (0 : Int32)), (.int (0 : Int32))])) (fun t k => XS.iload X14.here hx rfl (hb hby at_155) rfl k) ?_
      refine own_via (T' := T14) (g' := (mkF m 162 #[.val (.int p1), .val (.int p2), .val (.int p3), .val (.int p4), .val (.int p5), .val (.int hh), .val (.int qq), .val (.ref b2), .val (.ref b4), .val (.int (1 : Int32)), .val .null, .val (.int (0 : Int32)), .val (.int (0 : Int32))] [])) (fun t k => XS.icmpYes X14.here hx rfl (pc0 := 157) (pc' := 162) rfl (hb hby at_157) rfl (teq rfl).1 (by decide) (by decide) k) ?_
      refine own_via (T' := T14) (g' := (mkF m 164 #[.val (.int p1), .val (.int p2), .val (.int p3), .val (.int p4), .val (.int p5), .val (.int hh), .val (.int qq), .val (.ref b2), .val (.ref b4), .val (.int (1 : Int32)), .val .null, .val (.int (0 : Int32)), .val (.int (0 : Int32))] [(.int (1 : Int32))])) (fun t k => XS.iload X14.here hx rfl (hb hby at_162) rfl k) ?_
      refine own_via (T' := T14) (g' := (mkF m 185 #[.val (.int p1), .val (.int p2), .val (.int p3), .val (.int p4), .val (.int p5), .val (.int hh), .val (.int qq), .val (.ref b2), .val (.ref b4), .val (.int (1 : Int32)), .val .null, .val (.int (0 : Int32)), .val (.int (0 : Int32))] [])) (fun t k => XS.ifYes X14.here hx rfl (pc0 := 164) (pc' := 185) rfl (hb hby at_164) rfl ((if0 _ _).trans (feq (by decide)).2) (by decide) (by decide) k) ?_
      refine own_via (T' := T14) (g' := (mkF m 186 #[.val (.int p1), .val (.int p2), .val (.int p3), .val (.int p4), .val (.int p5), .val (.int hh), .val (.int qq), .val (.ref b2), .val (.ref b4), .val (.int (1 : Int32)), .val .null, .val (.int (0 : Int32)), .val (.int (0 : Int32))] [(.int (1 : Int32))])) (fun t k => XS.iconst X14.here hx rfl (hb hby at_185) k) ?_
      exact own_ret (t := .boolean) X14 hx Bd.returns hlk rfl (Or.inl ⟨rfl, by simp, _, rfl⟩) (hb hby at_186) (by decide) (by decide) ⟨rfl, N⟩
    · refine own_via (T' := T5) (g' := (mkF m 73 #[.val (.int p1), .val (.int p2), .val (.int p3), .val (.int p4), .val (.int p5), .val (.int hh), .val (.int qq), .val (.ref b2), .val (.ref b4), .val (.int (2 : Int32)), .unset, .unset, .unset] [])) (fun t k => XS.istore X5.here hx rfl (hb hby at_71) rfl (l' := #[.val (.int p1), .val (.int p2), .val (.int p3), .val (.int p4), .val (.int p5), .val (.int hh), .val (.int qq), .val (.ref b2), .val (.ref b4), .val (.int (2 : Int32)), .unset, .unset, .unset]) rfl k) ?_
      refine own_via (T' := T5) (g' := (mkF m 75 #[.val (.int p1), .val (.int p2), .val (.int p3), .val (.int p4), .val (.int p5), .val (.int hh), .val (.int qq), .val (.ref b2), .val (.ref b4), .val (.int (2 : Int32)), .unset, .unset, .unset] [(.int (2 : Int32))])) (fun t k => XS.iload X5.here hx rfl (hb hby at_73) rfl k) ?_
      refine own_via (T' := T5) (g' := (mkF m 104 #[.val (.int p1), .val (.int p2), .val (.int p3), .val (.int p4), .val (.int p5), .val (.int hh), .val (.int qq), .val (.ref b2), .val (.ref b4), .val (.int (2 : Int32)), .unset, .unset, .unset] [])) (fun t k => XS.ifYes X5.here hx rfl (pc0 := 75) (pc' := 104) rfl (hb hby at_75) rfl ((if0 _ _).trans (feq (by decide)).2) (by decide) (by decide) k) ?_
      refine own_via (T' := T5) (g' := (mkF m 106 #[.val (.int p1), .val (.int p2), .val (.int p3), .val (.int p4), .val (.int p5), .val (.int hh), .val (.int qq), .val (.ref b2), .val (.ref b4), .val (.int (2 : Int32)), .unset, .unset, .unset] [(.int (2 : Int32))])) (fun t k => XS.iload X5.here hx rfl (hb hby at_104) rfl k) ?_
      refine own_via (T' := T5) (g' := (mkF m 107 #[.val (.int p1), .val (.int p2), .val (.int p3), .val (.int p4), .val (.int p5), .val (.int hh), .val (.int qq), .val (.ref b2), .val (.ref b4), .val (.int (2 : Int32)), .unset, .unset, .unset] [(.int (1 : Int32)), (.int (2 : Int32))])) (fun t k => XS.iconst X5.here hx rfl (hb hby at_106) k) ?_
      refine own_via (T' := T5) (g' := (mkF m 119 #[.val (.int p1), .val (.int p2), .val (.int p3), .val (.int p4), .val (.int p5), .val (.int hh), .val (.int qq), .val (.ref b2), .val (.ref b4), .val (.int (2 : Int32)), .unset, .unset, .unset] [])) (fun t k => XS.icmpYes X5.here hx rfl (pc0 := 107) (pc' := 119) rfl (hb hby at_107) rfl (feq (by decide)).2 (by decide) (by decide) k) ?_
      refine own_via (T' := T5) (g' := (mkF m 121 #[.val (.int p1), .val (.int p2), .val (.int p3), .val (.int p4), .val (.int p5), .val (.int hh), .val (.int qq), .val (.ref b2), .val (.ref b4), .val (.int (2 : Int32)), .unset, .unset, .unset] [(.int (2 : Int32))])) (fun t k => XS.iload X5.here hx rfl (hb hby at_119) rfl k) ?_
      refine own_via (T' := T5) (g' := (mkF m 122 #[.val (.int p1), .val (.int p2), .val (.int p3), .val (.int p4), .val (.int p5), .val (.int hh), .val (.int qq), .val (.ref b2), .val (.ref b4), .val (.int (2 : Int32)), .unset, .unset, .unset] [(.int (2 : Int32)), (.int (2 : Int32))])) (fun t k => XS.iconst X5.here hx rfl (hb hby at_121) k) ?_
      refine own_via (T' := T5) (g' := (mkF m 125 #[.val (.int p1), .val (.int p2), .val (.int p3), .val (.int p4), .val (.int p5), .val (.int hh), .val (.int qq), .val (.ref b2), .val (.ref b4), .val (.int (2 : Int32)), .unset, .unset, .unset] [])) (fun t k => XS.icmpNo X5.here hx rfl (hb hby at_122) rfl (teq rfl).2 k) ?_
      refine own_via (T' := T5) (g' := (mkF m 126 #[.val (.int p1), .val (.int p2), .val (.int p3), .val (.int p4), .val (.int p5), .val (.int hh), .val (.int qq), .val (.ref b2), .val (.ref b4), .val (.int (2 : Int32)), .unset, .unset, .unset] [(.int p1)])) (fun t k => XS.iloadN X5.here hx rfl (hb hby at_125) rfl k) ?_
      obtain ⟨v15, T15, Lc15, X15, hQ15, st15⟩ := own_callSQ (W := 0) (y := (⟨"java/lang/Integer", "valueOf", "(I)Ljava/lang/Integer;"⟩ : MethodName)) X5 hx hZ hown (hw _ (List.mem_of_getElem? (i := 25) rfl)) (hw _ (List.mem_of_getElem? (i := 26) rfl)) (hw _ (List.mem_of_getElem? (i := 27) rfl)) (hw _ (List.mem_of_getElem? (i := 28) rfl)) (by decide) (own_vo l Z a0 hw p1 h0.size ca cc T5.heap K.1 (own_staK SH K) (own_staK SC K) (own_arrK AR K) SZ (fun j hj => let ⟨box, q1, q2⟩ := BX j hj; ⟨box, q1, q2.keep K⟩)) rfl (by decide) (by decide) (by decide) (by decide) (g := (mkF m 126 #[.val (.int p1), .val (.int p2), .val (.int p3), .val (.int p4), .val (.int p5), .val (.int hh), .val (.int qq), .val (.ref b2), .val (.ref b4), .val (.int (2 : Int32)), .unset, .unset, .unset] [(.int p1)])) rfl (by rw [hml]; rfl) (argsL := [(.int p1)]) (rest := []) (lenOf pd_62 rfl) rfl (by show 2 * 0 + _ ≤ _; exact Nat.le_of_eq rfl) (hb hby at_126) rfl
      obtain ⟨wI, rfl, N15, K15, E_wI⟩ := hQ15
      have K := K.trans K15 all0
      have N := Fr.app N N15
      have E_b2 := E_b2.keep K15
      have F_height_b2 := F_height_b2.keep K15 nin0
      have F_peakKbps_b2 := F_peakKbps_b2.keep K15 nin0
      have E_b4 := E_b4.keep K15
      have F_height_b4 := F_height_b4.keep K15 nin0
      have F_peakKbps_b4 := F_peakKbps_b4.keep K15 nin0
      refine own_via (T' := T15) (g' := (mkF m 129 #[.val (.int p1), .val (.int p2), .val (.int p3), .val (.int p4), .val (.int p5), .val (.int hh), .val (.int qq), .val (.ref b2), .val (.ref b4), .val (.int (2 : Int32)), .unset, .unset, .unset] [(.ref wI)])) st15 ?_
      refine own_via (T' := T15) (g' := (mkF m 131 #[.val (.int p1), .val (.int p2), .val (.int p3), .val (.int p4), .val (.int p5), .val (.int hh), .val (.int qq), .val (.ref b2), .val (.ref b4), .val (.int (2 : Int32)), .val (.ref wI), .unset, .unset] [])) (fun t k => XS.astore X15.here hx rfl (hb hby at_129) rfl rfl (l' := #[.val (.int p1), .val (.int p2), .val (.int p3), .val (.int p4), .val (.int p5), .val (.int hh), .val (.int qq), .val (.ref b2), .val (.ref b4), .val (.int (2 : Int32)), .val (.ref wI), .unset, .unset]) rfl k) ?_
      refine own_via (T' := T15) (g' := (mkF m 132 #[.val (.int p1), .val (.int p2), .val (.int p3), .val (.int p4), .val (.int p5), .val (.int hh), .val (.int qq), .val (.ref b2), .val (.ref b4), .val (.int (2 : Int32)), .val (.ref wI), .unset, .unset] [(.int (0 : Int32))])) (fun t k => XS.iconst X15.here hx rfl (hb hby at_131) k) ?_
      refine own_via (T' := T15) (g' := (mkF m 134 #[.val (.int p1), .val (.int p2), .val (.int p3), .val (.int p4), .val (.int p5), .val (.int hh), .val (.int qq), .val (.ref b2), .val (.ref b4), .val (.int (2 : Int32)), .val (.ref wI), .val (.int (0 : Int32)), .unset] [])) (fun t k => XS.istore X15.here hx rfl (hb hby at_132) rfl (l' := #[.val (.int p1), .val (.int p2), .val (.int p3), .val (.int p4), .val (.int p5), .val (.int hh), .val (.int qq), .val (.ref b2), .val (.ref b4), .val (.int (2 : Int32)), .val (.ref wI), .val (.int (0 : Int32)), .unset]) rfl k) ?_
      refine own_via (T' := T15) (g' := (mkF m 144 #[.val (.int p1), .val (.int p2), .val (.int p3), .val (.int p4), .val (.int p5), .val (.int hh), .val (.int qq), .val (.ref b2), .val (.ref b4), .val (.int (2 : Int32)), .val (.ref wI), .val (.int (0 : Int32)), .unset] [])) (fun t k => XS.goto X15.here hx rfl (pc0 := 134) (pc' := 144) rfl (hb hby at_134) (by decide) (by decide) k) ?_
      refine own_via (T' := T15) (g' := (mkF m 146 #[.val (.int p1), .val (.int p2), .val (.int p3), .val (.int p4), .val (.int p5), .val (.int hh), .val (.int qq), .val (.ref b2), .val (.ref b4), .val (.int (2 : Int32)), .val (.ref wI), .val (.int (0 : Int32)), .unset] [(.ref b2)])) (fun t k => XS.aload X15.here hx rfl (hb hby at_144) rfl rfl k) ?_
      refine own_via (T' := T15) (g' := (mkF m 148 #[.val (.int p1), .val (.int p2), .val (.int p3), .val (.int p4), .val (.int p5), .val (.int hh), .val (.int qq), .val (.ref b2), .val (.ref b4), .val (.int (2 : Int32)), .val (.ref wI), .val (.int (0 : Int32)), .unset] [(.ref wI), (.ref b2)])) (fun t k => XS.aload X15.here hx rfl (hb hby at_146) rfl rfl k) ?_
      obtain ⟨T16, X16, e16, st16⟩ := own_callV (W := 0) (r := (some (.int (0 : Int32)))) (y := (⟨"com/example/lazytail/lazytail/media/Rung", "equals", "(Ljava/lang/Object;)Z"⟩ : MethodName)) (z := (⟨"com/example/lazytail/lazytail/media/Rung", "equals", "(Ljava/lang/Object;)Z"⟩ : MethodName)) X15 hx hZ hown (hw _ (List.mem_of_getElem? (i := 18) rfl)) (hw _ (List.mem_of_getElem? (i := 19) rfl)) (notFace_of_selects (args := #[]) (mvT hZ (hw _ (List.mem_of_getElem? (i := 21) rfl)))) (hw _ (List.mem_of_getElem? (i := 21) rfl)) (hw _ (List.mem_of_getElem? (i := 20) rfl)) (by decide) (hw _ (List.mem_of_getElem? (i := 22) rfl)) (hw _ (List.mem_of_getElem? (i := 2) rfl)) (own_eqI l Z a0 hw b2 wI T15.heap E_wI) rfl E_b2 (by decide) (by decide) (by decide) (by decide) (g := (mkF m 148 #[.val (.int p1), .val (.int p2), .val (.int p3), .val (.int p4), .val (.int p5), .val (.int hh), .val (.int qq), .val (.ref b2), .val (.ref b4), .val (.int (2 : Int32)), .val (.ref wI), .val (.int (0 : Int32)), .unset] [(.ref wI), (.ref b2)])) rfl (by rw [hml]; rfl) (argsL := [(.ref wI)]) (rest := []) (lenOf pd_61 rfl) rfl (by show 2 * 0 + _ ≤ _; exact Nat.le_of_eq rfl) (hb hby at_148) rfl
      refine own_via (T' := T16) (g' := (mkF m 151 #[.val (.int p1), .val (.int p2), .val (.int p3), .val (.int p4), .val (.int p5), .val (.int hh), .val (.int qq), .val (.ref b2), .val (.ref b4), .val (.int (2 : Int32)), .val (.ref wI), .val (.int (0 : Int32)), .unset] [(.int (0 : Int32))])) st16 ?_
      refine own_via (T' := T16) (g' := (mkF m 153 #[.val (.int p1), .val (.int p2), .val (.int p3), .val (.int p4), .val (.int p5), .val (.int hh), .val (.int qq), .val (.ref b2), .val (.ref b4), .val (.int (2 : Int32)), .val (.ref wI), .val (.int (0 : Int32)), .val (.int (0 : Int32))] [])) (fun t k => XS.istore X16.here hx rfl (hb hby at_151) rfl (l' := #[.val (.int p1), .val (.int p2), .val (.int p3), .val (.int p4), .val (.int p5), .val (.int hh), .val (.int qq), .val (.ref b2), .val (.ref b4), .val (.int (2 : Int32)), .val (.ref wI), .val (.int (0 : Int32)), .val (.int (0 : Int32))]) rfl k) ?_
      refine own_via (T' := T16) (g' := (mkF m 155 #[.val (.int p1), .val (.int p2), .val (.int p3), .val (.int p4), .val (.int p5), .val (.int hh), .val (.int qq), .val (.ref b2), .val (.ref b4), .val (.int (2 : Int32)), .val (.ref wI), .val (.int (0 : Int32)), .val (.int (0 : Int32))] [(.int (0 : Int32))])) (fun t k => XS.iload X16.here hx rfl (hb hby at_153) rfl k) ?_
      refine own_via (T' := T16) (g' := (mkF m 157 #[.val (.int p1), .val (.int p2), .val (.int p3), .val (.int p4), .val (.int p5), .val (.int hh), .val (.int qq), .val (.ref b2), .val (.ref b4), .val (.int (2 : Int32)), .val (.ref wI), .val (.int (0 : Int32)), .val (.int (0 : Int32))] [(.int (0 : Int32)), (.int (0 : Int32))])) (fun t k => XS.iload X16.here hx rfl (hb hby at_155) rfl k) ?_
      refine own_via (T' := T16) (g' := (mkF m 162 #[.val (.int p1), .val (.int p2), .val (.int p3), .val (.int p4), .val (.int p5), .val (.int hh), .val (.int qq), .val (.ref b2), .val (.ref b4), .val (.int (2 : Int32)), .val (.ref wI), .val (.int (0 : Int32)), .val (.int (0 : Int32))] [])) (fun t k => XS.icmpYes X16.here hx rfl (pc0 := 157) (pc' := 162) rfl (hb hby at_157) rfl (teq rfl).1 (by decide) (by decide) k) ?_
      refine own_via (T' := T16) (g' := (mkF m 164 #[.val (.int p1), .val (.int p2), .val (.int p3), .val (.int p4), .val (.int p5), .val (.int hh), .val (.int qq), .val (.ref b2), .val (.ref b4), .val (.int (2 : Int32)), .val (.ref wI), .val (.int (0 : Int32)), .val (.int (0 : Int32))] [(.int (2 : Int32))])) (fun t k => XS.iload X16.here hx rfl (hb hby at_162) rfl k) ?_
      refine own_via (T' := T16) (g' := (mkF m 185 #[.val (.int p1), .val (.int p2), .val (.int p3), .val (.int p4), .val (.int p5), .val (.int hh), .val (.int qq), .val (.ref b2), .val (.ref b4), .val (.int (2 : Int32)), .val (.ref wI), .val (.int (0 : Int32)), .val (.int (0 : Int32))] [])) (fun t k => XS.ifYes X16.here hx rfl (pc0 := 164) (pc' := 185) rfl (hb hby at_164) rfl ((if0 _ _).trans (feq (by decide)).2) (by decide) (by decide) k) ?_
      refine own_via (T' := T16) (g' := (mkF m 186 #[.val (.int p1), .val (.int p2), .val (.int p3), .val (.int p4), .val (.int p5), .val (.int hh), .val (.int qq), .val (.ref b2), .val (.ref b4), .val (.int (2 : Int32)), .val (.ref wI), .val (.int (0 : Int32)), .val (.int (0 : Int32))] [(.int (1 : Int32))])) (fun t k => XS.iconst X16.here hx rfl (hb hby at_185) k) ?_
      exact own_ret (t := .boolean) X16 hx Bd.returns hlk rfl (Or.inl ⟨rfl, by simp, _, rfl⟩) (hb hby at_186) (by decide) (by decide) ⟨rfl, N⟩
    · refine own_via (T' := T5) (g' := (mkF m 73 #[.val (.int p1), .val (.int p2), .val (.int p3), .val (.int p4), .val (.int p5), .val (.int hh), .val (.int qq), .val (.ref b2), .val (.ref b4), .val (.int (3 : Int32)), .unset, .unset, .unset] [])) (fun t k => XS.istore X5.here hx rfl (hb hby at_71) rfl (l' := #[.val (.int p1), .val (.int p2), .val (.int p3), .val (.int p4), .val (.int p5), .val (.int hh), .val (.int qq), .val (.ref b2), .val (.ref b4), .val (.int (3 : Int32)), .unset, .unset, .unset]) rfl k) ?_
      refine own_via (T' := T5) (g' := (mkF m 75 #[.val (.int p1), .val (.int p2), .val (.int p3), .val (.int p4), .val (.int p5), .val (.int hh), .val (.int qq), .val (.ref b2), .val (.ref b4), .val (.int (3 : Int32)), .unset, .unset, .unset] [(.int (3 : Int32))])) (fun t k => XS.iload X5.here hx rfl (hb hby at_73) rfl k) ?_
      refine own_via (T' := T5) (g' := (mkF m 104 #[.val (.int p1), .val (.int p2), .val (.int p3), .val (.int p4), .val (.int p5), .val (.int hh), .val (.int qq), .val (.ref b2), .val (.ref b4), .val (.int (3 : Int32)), .unset, .unset, .unset] [])) (fun t k => XS.ifYes X5.here hx rfl (pc0 := 75) (pc' := 104) rfl (hb hby at_75) rfl ((if0 _ _).trans (feq (by decide)).2) (by decide) (by decide) k) ?_
      refine own_via (T' := T5) (g' := (mkF m 106 #[.val (.int p1), .val (.int p2), .val (.int p3), .val (.int p4), .val (.int p5), .val (.int hh), .val (.int qq), .val (.ref b2), .val (.ref b4), .val (.int (3 : Int32)), .unset, .unset, .unset] [(.int (3 : Int32))])) (fun t k => XS.iload X5.here hx rfl (hb hby at_104) rfl k) ?_
      refine own_via (T' := T5) (g' := (mkF m 107 #[.val (.int p1), .val (.int p2), .val (.int p3), .val (.int p4), .val (.int p5), .val (.int hh), .val (.int qq), .val (.ref b2), .val (.ref b4), .val (.int (3 : Int32)), .unset, .unset, .unset] [(.int (1 : Int32)), (.int (3 : Int32))])) (fun t k => XS.iconst X5.here hx rfl (hb hby at_106) k) ?_
      refine own_via (T' := T5) (g' := (mkF m 119 #[.val (.int p1), .val (.int p2), .val (.int p3), .val (.int p4), .val (.int p5), .val (.int hh), .val (.int qq), .val (.ref b2), .val (.ref b4), .val (.int (3 : Int32)), .unset, .unset, .unset] [])) (fun t k => XS.icmpYes X5.here hx rfl (pc0 := 107) (pc' := 119) rfl (hb hby at_107) rfl (feq (by decide)).2 (by decide) (by decide) k) ?_
      refine own_via (T' := T5) (g' := (mkF m 121 #[.val (.int p1), .val (.int p2), .val (.int p3), .val (.int p4), .val (.int p5), .val (.int hh), .val (.int qq), .val (.ref b2), .val (.ref b4), .val (.int (3 : Int32)), .unset, .unset, .unset] [(.int (3 : Int32))])) (fun t k => XS.iload X5.here hx rfl (hb hby at_119) rfl k) ?_
      refine own_via (T' := T5) (g' := (mkF m 122 #[.val (.int p1), .val (.int p2), .val (.int p3), .val (.int p4), .val (.int p5), .val (.int hh), .val (.int qq), .val (.ref b2), .val (.ref b4), .val (.int (3 : Int32)), .unset, .unset, .unset] [(.int (2 : Int32)), (.int (3 : Int32))])) (fun t k => XS.iconst X5.here hx rfl (hb hby at_121) k) ?_
      refine own_via (T' := T5) (g' := (mkF m 137 #[.val (.int p1), .val (.int p2), .val (.int p3), .val (.int p4), .val (.int p5), .val (.int hh), .val (.int qq), .val (.ref b2), .val (.ref b4), .val (.int (3 : Int32)), .unset, .unset, .unset] [])) (fun t k => XS.icmpYes X5.here hx rfl (pc0 := 122) (pc' := 137) rfl (hb hby at_122) rfl (feq (by decide)).2 (by decide) (by decide) k) ?_
      refine own_via (T' := T5) (g' := (mkF m 139 #[.val (.int p1), .val (.int p2), .val (.int p3), .val (.int p4), .val (.int p5), .val (.int hh), .val (.int qq), .val (.ref b2), .val (.ref b4), .val (.int (3 : Int32)), .unset, .unset, .unset] [(.ref b2)])) (fun t k => XS.aload X5.here hx rfl (hb hby at_137) rfl rfl k) ?_
      refine own_via (T' := T5) (g' := (mkF m 141 #[.val (.int p1), .val (.int p2), .val (.int p3), .val (.int p4), .val (.int p5), .val (.int hh), .val (.int qq), .val (.ref b2), .val (.ref b4), .val (.int (3 : Int32)), .val (.ref b2), .unset, .unset] [])) (fun t k => XS.astore X5.here hx rfl (hb hby at_139) rfl rfl (l' := #[.val (.int p1), .val (.int p2), .val (.int p3), .val (.int p4), .val (.int p5), .val (.int hh), .val (.int qq), .val (.ref b2), .val (.ref b4), .val (.int (3 : Int32)), .val (.ref b2), .unset, .unset]) rfl k) ?_
      refine own_via (T' := T5) (g' := (mkF m 142 #[.val (.int p1), .val (.int p2), .val (.int p3), .val (.int p4), .val (.int p5), .val (.int hh), .val (.int qq), .val (.ref b2), .val (.ref b4), .val (.int (3 : Int32)), .val (.ref b2), .unset, .unset] [(.int (1 : Int32))])) (fun t k => XS.iconst X5.here hx rfl (hb hby at_141) k) ?_
      refine own_via (T' := T5) (g' := (mkF m 144 #[.val (.int p1), .val (.int p2), .val (.int p3), .val (.int p4), .val (.int p5), .val (.int hh), .val (.int qq), .val (.ref b2), .val (.ref b4), .val (.int (3 : Int32)), .val (.ref b2), .val (.int (1 : Int32)), .unset] [])) (fun t k => XS.istore X5.here hx rfl (hb hby at_142) rfl (l' := #[.val (.int p1), .val (.int p2), .val (.int p3), .val (.int p4), .val (.int p5), .val (.int hh), .val (.int qq), .val (.ref b2), .val (.ref b4), .val (.int (3 : Int32)), .val (.ref b2), .val (.int (1 : Int32)), .unset]) rfl k) ?_
      refine own_via (T' := T5) (g' := (mkF m 146 #[.val (.int p1), .val (.int p2), .val (.int p3), .val (.int p4), .val (.int p5), .val (.int hh), .val (.int qq), .val (.ref b2), .val (.ref b4), .val (.int (3 : Int32)), .val (.ref b2), .val (.int (1 : Int32)), .unset] [(.ref b2)])) (fun t k => XS.aload X5.here hx rfl (hb hby at_144) rfl rfl k) ?_
      refine own_via (T' := T5) (g' := (mkF m 148 #[.val (.int p1), .val (.int p2), .val (.int p3), .val (.int p4), .val (.int p5), .val (.int hh), .val (.int qq), .val (.ref b2), .val (.ref b4), .val (.int (3 : Int32)), .val (.ref b2), .val (.int (1 : Int32)), .unset] [(.ref b2), (.ref b2)])) (fun t k => XS.aload X5.here hx rfl (hb hby at_146) rfl rfl k) ?_
      obtain ⟨T17, X17, e17, st17⟩ := own_callV (W := 0) (r := (some (.int (1 : Int32)))) (y := (⟨"com/example/lazytail/lazytail/media/Rung", "equals", "(Ljava/lang/Object;)Z"⟩ : MethodName)) (z := (⟨"com/example/lazytail/lazytail/media/Rung", "equals", "(Ljava/lang/Object;)Z"⟩ : MethodName)) X5 hx hZ hown (hw _ (List.mem_of_getElem? (i := 18) rfl)) (hw _ (List.mem_of_getElem? (i := 19) rfl)) (notFace_of_selects (args := #[]) (mvT hZ (hw _ (List.mem_of_getElem? (i := 21) rfl)))) (hw _ (List.mem_of_getElem? (i := 21) rfl)) (hw _ (List.mem_of_getElem? (i := 20) rfl)) (by decide) (hw _ (List.mem_of_getElem? (i := 22) rfl)) (hw _ (List.mem_of_getElem? (i := 2) rfl)) (own_eq l Z a0 hw b2 b2 p1 p2 p1 p2 (1 : Int32) T5.heap F_height_b2 F_peakKbps_b2 F_height_b2 F_peakKbps_b2 E_b2 (by simp [own_eqv])) rfl E_b2 (by decide) (by decide) (by decide) (by decide) (g := (mkF m 148 #[.val (.int p1), .val (.int p2), .val (.int p3), .val (.int p4), .val (.int p5), .val (.int hh), .val (.int qq), .val (.ref b2), .val (.ref b4), .val (.int (3 : Int32)), .val (.ref b2), .val (.int (1 : Int32)), .unset] [(.ref b2), (.ref b2)])) rfl (by rw [hml]; rfl) (argsL := [(.ref b2)]) (rest := []) (lenOf pd_61 rfl) rfl (by show 2 * 0 + _ ≤ _; exact Nat.le_of_eq rfl) (hb hby at_148) rfl
      refine own_via (T' := T17) (g' := (mkF m 151 #[.val (.int p1), .val (.int p2), .val (.int p3), .val (.int p4), .val (.int p5), .val (.int hh), .val (.int qq), .val (.ref b2), .val (.ref b4), .val (.int (3 : Int32)), .val (.ref b2), .val (.int (1 : Int32)), .unset] [(.int (1 : Int32))])) st17 ?_
      refine own_via (T' := T17) (g' := (mkF m 153 #[.val (.int p1), .val (.int p2), .val (.int p3), .val (.int p4), .val (.int p5), .val (.int hh), .val (.int qq), .val (.ref b2), .val (.ref b4), .val (.int (3 : Int32)), .val (.ref b2), .val (.int (1 : Int32)), .val (.int (1 : Int32))] [])) (fun t k => XS.istore X17.here hx rfl (hb hby at_151) rfl (l' := #[.val (.int p1), .val (.int p2), .val (.int p3), .val (.int p4), .val (.int p5), .val (.int hh), .val (.int qq), .val (.ref b2), .val (.ref b4), .val (.int (3 : Int32)), .val (.ref b2), .val (.int (1 : Int32)), .val (.int (1 : Int32))]) rfl k) ?_
      refine own_via (T' := T17) (g' := (mkF m 155 #[.val (.int p1), .val (.int p2), .val (.int p3), .val (.int p4), .val (.int p5), .val (.int hh), .val (.int qq), .val (.ref b2), .val (.ref b4), .val (.int (3 : Int32)), .val (.ref b2), .val (.int (1 : Int32)), .val (.int (1 : Int32))] [(.int (1 : Int32))])) (fun t k => XS.iload X17.here hx rfl (hb hby at_153) rfl k) ?_
      refine own_via (T' := T17) (g' := (mkF m 157 #[.val (.int p1), .val (.int p2), .val (.int p3), .val (.int p4), .val (.int p5), .val (.int hh), .val (.int qq), .val (.ref b2), .val (.ref b4), .val (.int (3 : Int32)), .val (.ref b2), .val (.int (1 : Int32)), .val (.int (1 : Int32))] [(.int (1 : Int32)), (.int (1 : Int32))])) (fun t k => XS.iload X17.here hx rfl (hb hby at_155) rfl k) ?_
      refine own_via (T' := T17) (g' := (mkF m 162 #[.val (.int p1), .val (.int p2), .val (.int p3), .val (.int p4), .val (.int p5), .val (.int hh), .val (.int qq), .val (.ref b2), .val (.ref b4), .val (.int (3 : Int32)), .val (.ref b2), .val (.int (1 : Int32)), .val (.int (1 : Int32))] [])) (fun t k => XS.icmpYes X17.here hx rfl (pc0 := 157) (pc' := 162) rfl (hb hby at_157) rfl (teq rfl).1 (by decide) (by decide) k) ?_
      refine own_via (T' := T17) (g' := (mkF m 164 #[.val (.int p1), .val (.int p2), .val (.int p3), .val (.int p4), .val (.int p5), .val (.int hh), .val (.int qq), .val (.ref b2), .val (.ref b4), .val (.int (3 : Int32)), .val (.ref b2), .val (.int (1 : Int32)), .val (.int (1 : Int32))] [(.int (3 : Int32))])) (fun t k => XS.iload X17.here hx rfl (hb hby at_162) rfl k) ?_
      refine own_via (T' := T17) (g' := (mkF m 185 #[.val (.int p1), .val (.int p2), .val (.int p3), .val (.int p4), .val (.int p5), .val (.int hh), .val (.int qq), .val (.ref b2), .val (.ref b4), .val (.int (3 : Int32)), .val (.ref b2), .val (.int (1 : Int32)), .val (.int (1 : Int32))] [])) (fun t k => XS.ifYes X17.here hx rfl (pc0 := 164) (pc' := 185) rfl (hb hby at_164) rfl ((if0 _ _).trans (feq (by decide)).2) (by decide) (by decide) k) ?_
      refine own_via (T' := T17) (g' := (mkF m 186 #[.val (.int p1), .val (.int p2), .val (.int p3), .val (.int p4), .val (.int p5), .val (.int hh), .val (.int qq), .val (.ref b2), .val (.ref b4), .val (.int (3 : Int32)), .val (.ref b2), .val (.int (1 : Int32)), .val (.int (1 : Int32))] [(.int (1 : Int32))])) (fun t k => XS.iconst X17.here hx rfl (hb hby at_185) k) ?_
      exact own_ret (t := .boolean) X17 hx Bd.returns hlk rfl (Or.inl ⟨rfl, by simp, _, rfl⟩) (hb hby at_186) (by decide) (by decide) ⟨rfl, N⟩
  · refine own_via (T' := s₁) (g' := (mkF m 2 #[.val (.int p1), .val (.int p2), .val (.int p3), .val (.int p4), .val (.int p5), .unset, .unset, .unset, .unset, .unset, .unset, .unset, .unset] [(.int p5)])) (fun t k => XS.iload X0.here hx rfl (hb hby at_0) rfl k) ?_
    refine own_via (T' := s₁) (g' := (mkF m 3 #[.val (.int p1), .val (.int p2), .val (.int p3), .val (.int p4), .val (.int p5), .unset, .unset, .unset, .unset, .unset, .unset, .unset, .unset] [(.int (1 : Int32)), (.int p5)])) (fun t k => XS.iconst X0.here hx rfl (hb hby at_2) k) ?_
    refine own_via (T' := s₁) (g' := (mkF m 4 #[.val (.int p1), .val (.int p2), .val (.int p3), .val (.int p4), .val (.int p5), .unset, .unset, .unset, .unset, .unset, .unset, .unset, .unset] [(.int (p5 &&& (1 : Int32)))])) (fun t k => XS.iand X0.here hx rfl (hb hby at_3) rfl k) ?_
    by_cases hc18 : (p5 &&& (1 : Int32)) = (0 : Int32)
    · refine own_via (T' := s₁) (g' := (mkF m 11 #[.val (.int p1), .val (.int p2), .val (.int p3), .val (.int p4), .val (.int p5), .unset, .unset, .unset, .unset, .unset, .unset, .unset, .unset] [])) (fun t k => XS.ifYes X0.here hx rfl (pc0 := 4) (pc' := 11) rfl (hb hby at_4) rfl ((if0 _ _).trans (teq hc18).1) (by decide) (by decide) k) ?_
      refine own_via (T' := s₁) (g' := (mkF m 12 #[.val (.int p1), .val (.int p2), .val (.int p3), .val (.int p4), .val (.int p5), .unset, .unset, .unset, .unset, .unset, .unset, .unset, .unset] [(.int p3)])) (fun t k => XS.iloadN X0.here hx rfl (hb hby at_11) rfl k) ?_
      refine own_via (T' := s₁) (g' := (mkF m 14 #[.val (.int p1), .val (.int p2), .val (.int p3), .val (.int p4), .val (.int p5), .val (.int p3), .unset, .unset, .unset, .unset, .unset, .unset, .unset] [])) (fun t k => XS.istore X0.here hx rfl (hb hby at_12) rfl (l' := #[.val (.int p1), .val (.int p2), .val (.int p3), .val (.int p4), .val (.int p5), .val (.int p3), .unset, .unset, .unset, .unset, .unset, .unset, .unset]) rfl k) ?_
      refine own_via (T' := s₁) (g' := (mkF m 16 #[.val (.int p1), .val (.int p2), .val (.int p3), .val (.int p4), .val (.int p5), .val (.int p3), .unset, .unset, .unset, .unset, .unset, .unset, .unset] [(.int p5)])) (fun t k => XS.iload X0.here hx rfl (hb hby at_14) rfl k) ?_
      refine own_via (T' := s₁) (g' := (mkF m 17 #[.val (.int p1), .val (.int p2), .val (.int p3), .val (.int p4), .val (.int p5), .val (.int p3), .unset, .unset, .unset, .unset, .unset, .unset, .unset] [(.int (2 : Int32)), (.int p5)])) (fun t k => XS.iconst X0.here hx rfl (hb hby at_16) k) ?_
      refine own_via (T' := s₁) (g' := (mkF m 18 #[.val (.int p1), .val (.int p2), .val (.int p3), .val (.int p4), .val (.int p5), .val (.int p3), .unset, .unset, .unset, .unset, .unset, .unset, .unset] [(.int (p5 &&& (2 : Int32)))])) (fun t k => XS.iand X0.here hx rfl (hb hby at_17) rfl k) ?_
      by_cases hc19 : (p5 &&& (2 : Int32)) = (0 : Int32)
      · refine own_via (T' := s₁) (g' := (mkF m 25 #[.val (.int p1), .val (.int p2), .val (.int p3), .val (.int p4), .val (.int p5), .val (.int p3), .unset, .unset, .unset, .unset, .unset, .unset, .unset] [])) (fun t k => XS.ifYes X0.here hx rfl (pc0 := 18) (pc' := 25) rfl (hb hby at_18) rfl ((if0 _ _).trans (teq hc19).1) (by decide) (by decide) k) ?_
        refine own_via (T' := s₁) (g' := (mkF m 26 #[.val (.int p1), .val (.int p2), .val (.int p3), .val (.int p4), .val (.int p5), .val (.int p3), .unset, .unset, .unset, .unset, .unset, .unset, .unset] [(.int p4)])) (fun t k => XS.iloadN X0.here hx rfl (hb hby at_25) rfl k) ?_
        refine own_via (T' := s₁) (g' := (mkF m 28 #[.val (.int p1), .val (.int p2), .val (.int p3), .val (.int p4), .val (.int p5), .val (.int p3), .val (.int p4), .unset, .unset, .unset, .unset, .unset, .unset] [])) (fun t k => XS.istore X0.here hx rfl (hb hby at_26) rfl (l' := #[.val (.int p1), .val (.int p2), .val (.int p3), .val (.int p4), .val (.int p5), .val (.int p3), .val (.int p4), .unset, .unset, .unset, .unset, .unset, .unset]) rfl k) ?_
        refine own_via (T' := s₁) (g' := (mkF m 30 #[.val (.int p1), .val (.int p2), .val (.int p3), .val (.int p4), .val (.int p5), .val (.int p3), .val (.int p4), .unset, .unset, .unset, .unset, .unset, .unset] [(.int p5)])) (fun t k => XS.iload X0.here hx rfl (hb hby at_28) rfl k) ?_
        refine own_via (T' := s₁) (g' := (mkF m 31 #[.val (.int p1), .val (.int p2), .val (.int p3), .val (.int p4), .val (.int p5), .val (.int p3), .val (.int p4), .unset, .unset, .unset, .unset, .unset, .unset] [(.int (4 : Int32)), (.int p5)])) (fun t k => XS.iconst X0.here hx rfl (hb hby at_30) k) ?_
        refine own_via (T' := s₁) (g' := (mkF m 32 #[.val (.int p1), .val (.int p2), .val (.int p3), .val (.int p4), .val (.int p5), .val (.int p3), .val (.int p4), .unset, .unset, .unset, .unset, .unset, .unset] [(.int (p5 &&& (4 : Int32)))])) (fun t k => XS.iand X0.here hx rfl (hb hby at_31) rfl k) ?_
        by_cases hc20 : (p5 &&& (4 : Int32)) = (0 : Int32)
        · refine own_via (T' := s₁) (g' := (mkF m 41 #[.val (.int p1), .val (.int p2), .val (.int p3), .val (.int p4), .val (.int p5), .val (.int p3), .val (.int p4), .unset, .unset, .unset, .unset, .unset, .unset] [])) (fun t k => XS.ifYes X0.here hx rfl (pc0 := 32) (pc' := 41) rfl (hb hby at_32) rfl ((if0 _ _).trans (teq hc20).1) (by decide) (by decide) k) ?_
          exact J1 (p3, p4) s₁ X0 e0
        · refine own_via (T' := s₁) (g' := (mkF m 35 #[.val (.int p1), .val (.int p2), .val (.int p3), .val (.int p4), .val (.int p5), .val (.int p3), .val (.int p4), .unset, .unset, .unset, .unset, .unset, .unset] [])) (fun t k => XS.ifNo X0.here hx rfl (hb hby at_32) rfl ((if0 _ _).trans (feq hc20).1) k) ?_
          refine own_via (T' := s₁) (g' := (mkF m 36 #[.val (.int p1), .val (.int p2), .val (.int p3), .val (.int p4), .val (.int p5), .val (.int p3), .val (.int p4), .unset, .unset, .unset, .unset, .unset, .unset] [(.int p2)])) (fun t k => XS.iloadN X0.here hx rfl (hb hby at_35) rfl k) ?_
          refine own_via (T' := s₁) (g' := (mkF m 38 #[.val (.int p1), .val (.int p2), .val (.int p3), .val (.int p4), .val (.int p5), .val (.int p2), .val (.int p4), .unset, .unset, .unset, .unset, .unset, .unset] [])) (fun t k => XS.istore X0.here hx rfl (hb hby at_36) rfl (l' := #[.val (.int p1), .val (.int p2), .val (.int p3), .val (.int p4), .val (.int p5), .val (.int p2), .val (.int p4), .unset, .unset, .unset, .unset, .unset, .unset]) rfl k) ?_
          refine own_via (T' := s₁) (g' := (mkF m 39 #[.val (.int p1), .val (.int p2), .val (.int p3), .val (.int p4), .val (.int p5), .val (.int p2), .val (.int p4), .unset, .unset, .unset, .unset, .unset, .unset] [(.int p1)])) (fun t k => XS.iloadN X0.here hx rfl (hb hby at_38) rfl k) ?_
          refine own_via (T' := s₁) (g' := (mkF m 41 #[.val (.int p1), .val (.int p2), .val (.int p3), .val (.int p4), .val (.int p5), .val (.int p2), .val (.int p1), .unset, .unset, .unset, .unset, .unset, .unset] [])) (fun t k => XS.istore X0.here hx rfl (hb hby at_39) rfl (l' := #[.val (.int p1), .val (.int p2), .val (.int p3), .val (.int p4), .val (.int p5), .val (.int p2), .val (.int p1), .unset, .unset, .unset, .unset, .unset, .unset]) rfl k) ?_
          exact J1 (p2, p1) s₁ X0 e0
      · refine own_via (T' := s₁) (g' := (mkF m 21 #[.val (.int p1), .val (.int p2), .val (.int p3), .val (.int p4), .val (.int p5), .val (.int p3), .unset, .unset, .unset, .unset, .unset, .unset, .unset] [])) (fun t k => XS.ifNo X0.here hx rfl (hb hby at_18) rfl ((if0 _ _).trans (feq hc19).1) k) ?_
        refine own_via (T' := s₁) (g' := (mkF m 22 #[.val (.int p1), .val (.int p2), .val (.int p3), .val (.int p4), .val (.int p5), .val (.int p3), .unset, .unset, .unset, .unset, .unset, .unset, .unset] [(.int p2)])) (fun t k => XS.iloadN X0.here hx rfl (hb hby at_21) rfl k) ?_
        refine own_via (T' := s₁) (g' := (mkF m 26 #[.val (.int p1), .val (.int p2), .val (.int p3), .val (.int p4), .val (.int p5), .val (.int p3), .unset, .unset, .unset, .unset, .unset, .unset, .unset] [(.int p2)])) (fun t k => XS.goto X0.here hx rfl (pc0 := 22) (pc' := 26) rfl (hb hby at_22) (by decide) (by decide) k) ?_
        refine own_via (T' := s₁) (g' := (mkF m 28 #[.val (.int p1), .val (.int p2), .val (.int p3), .val (.int p4), .val (.int p5), .val (.int p3), .val (.int p2), .unset, .unset, .unset, .unset, .unset, .unset] [])) (fun t k => XS.istore X0.here hx rfl (hb hby at_26) rfl (l' := #[.val (.int p1), .val (.int p2), .val (.int p3), .val (.int p4), .val (.int p5), .val (.int p3), .val (.int p2), .unset, .unset, .unset, .unset, .unset, .unset]) rfl k) ?_
        refine own_via (T' := s₁) (g' := (mkF m 30 #[.val (.int p1), .val (.int p2), .val (.int p3), .val (.int p4), .val (.int p5), .val (.int p3), .val (.int p2), .unset, .unset, .unset, .unset, .unset, .unset] [(.int p5)])) (fun t k => XS.iload X0.here hx rfl (hb hby at_28) rfl k) ?_
        refine own_via (T' := s₁) (g' := (mkF m 31 #[.val (.int p1), .val (.int p2), .val (.int p3), .val (.int p4), .val (.int p5), .val (.int p3), .val (.int p2), .unset, .unset, .unset, .unset, .unset, .unset] [(.int (4 : Int32)), (.int p5)])) (fun t k => XS.iconst X0.here hx rfl (hb hby at_30) k) ?_
        refine own_via (T' := s₁) (g' := (mkF m 32 #[.val (.int p1), .val (.int p2), .val (.int p3), .val (.int p4), .val (.int p5), .val (.int p3), .val (.int p2), .unset, .unset, .unset, .unset, .unset, .unset] [(.int (p5 &&& (4 : Int32)))])) (fun t k => XS.iand X0.here hx rfl (hb hby at_31) rfl k) ?_
        by_cases hc21 : (p5 &&& (4 : Int32)) = (0 : Int32)
        · refine own_via (T' := s₁) (g' := (mkF m 41 #[.val (.int p1), .val (.int p2), .val (.int p3), .val (.int p4), .val (.int p5), .val (.int p3), .val (.int p2), .unset, .unset, .unset, .unset, .unset, .unset] [])) (fun t k => XS.ifYes X0.here hx rfl (pc0 := 32) (pc' := 41) rfl (hb hby at_32) rfl ((if0 _ _).trans (teq hc21).1) (by decide) (by decide) k) ?_
          exact J1 (p3, p2) s₁ X0 e0
        · refine own_via (T' := s₁) (g' := (mkF m 35 #[.val (.int p1), .val (.int p2), .val (.int p3), .val (.int p4), .val (.int p5), .val (.int p3), .val (.int p2), .unset, .unset, .unset, .unset, .unset, .unset] [])) (fun t k => XS.ifNo X0.here hx rfl (hb hby at_32) rfl ((if0 _ _).trans (feq hc21).1) k) ?_
          refine own_via (T' := s₁) (g' := (mkF m 36 #[.val (.int p1), .val (.int p2), .val (.int p3), .val (.int p4), .val (.int p5), .val (.int p3), .val (.int p2), .unset, .unset, .unset, .unset, .unset, .unset] [(.int p2)])) (fun t k => XS.iloadN X0.here hx rfl (hb hby at_35) rfl k) ?_
          refine own_via (T' := s₁) (g' := (mkF m 38 #[.val (.int p1), .val (.int p2), .val (.int p3), .val (.int p4), .val (.int p5), .val (.int p2), .val (.int p2), .unset, .unset, .unset, .unset, .unset, .unset] [])) (fun t k => XS.istore X0.here hx rfl (hb hby at_36) rfl (l' := #[.val (.int p1), .val (.int p2), .val (.int p3), .val (.int p4), .val (.int p5), .val (.int p2), .val (.int p2), .unset, .unset, .unset, .unset, .unset, .unset]) rfl k) ?_
          refine own_via (T' := s₁) (g' := (mkF m 39 #[.val (.int p1), .val (.int p2), .val (.int p3), .val (.int p4), .val (.int p5), .val (.int p2), .val (.int p2), .unset, .unset, .unset, .unset, .unset, .unset] [(.int p1)])) (fun t k => XS.iloadN X0.here hx rfl (hb hby at_38) rfl k) ?_
          refine own_via (T' := s₁) (g' := (mkF m 41 #[.val (.int p1), .val (.int p2), .val (.int p3), .val (.int p4), .val (.int p5), .val (.int p2), .val (.int p1), .unset, .unset, .unset, .unset, .unset, .unset] [])) (fun t k => XS.istore X0.here hx rfl (hb hby at_39) rfl (l' := #[.val (.int p1), .val (.int p2), .val (.int p3), .val (.int p4), .val (.int p5), .val (.int p2), .val (.int p1), .unset, .unset, .unset, .unset, .unset, .unset]) rfl k) ?_
          exact J1 (p2, p1) s₁ X0 e0
    · refine own_via (T' := s₁) (g' := (mkF m 7 #[.val (.int p1), .val (.int p2), .val (.int p3), .val (.int p4), .val (.int p5), .unset, .unset, .unset, .unset, .unset, .unset, .unset, .unset] [])) (fun t k => XS.ifNo X0.here hx rfl (hb hby at_4) rfl ((if0 _ _).trans (feq hc18).1) k) ?_
      refine own_via (T' := s₁) (g' := (mkF m 8 #[.val (.int p1), .val (.int p2), .val (.int p3), .val (.int p4), .val (.int p5), .unset, .unset, .unset, .unset, .unset, .unset, .unset, .unset] [(.int p1)])) (fun t k => XS.iloadN X0.here hx rfl (hb hby at_7) rfl k) ?_
      refine own_via (T' := s₁) (g' := (mkF m 12 #[.val (.int p1), .val (.int p2), .val (.int p3), .val (.int p4), .val (.int p5), .unset, .unset, .unset, .unset, .unset, .unset, .unset, .unset] [(.int p1)])) (fun t k => XS.goto X0.here hx rfl (pc0 := 8) (pc' := 12) rfl (hb hby at_8) (by decide) (by decide) k) ?_
      refine own_via (T' := s₁) (g' := (mkF m 14 #[.val (.int p1), .val (.int p2), .val (.int p3), .val (.int p4), .val (.int p5), .val (.int p1), .unset, .unset, .unset, .unset, .unset, .unset, .unset] [])) (fun t k => XS.istore X0.here hx rfl (hb hby at_12) rfl (l' := #[.val (.int p1), .val (.int p2), .val (.int p3), .val (.int p4), .val (.int p5), .val (.int p1), .unset, .unset, .unset, .unset, .unset, .unset, .unset]) rfl k) ?_
      refine own_via (T' := s₁) (g' := (mkF m 16 #[.val (.int p1), .val (.int p2), .val (.int p3), .val (.int p4), .val (.int p5), .val (.int p1), .unset, .unset, .unset, .unset, .unset, .unset, .unset] [(.int p5)])) (fun t k => XS.iload X0.here hx rfl (hb hby at_14) rfl k) ?_
      refine own_via (T' := s₁) (g' := (mkF m 17 #[.val (.int p1), .val (.int p2), .val (.int p3), .val (.int p4), .val (.int p5), .val (.int p1), .unset, .unset, .unset, .unset, .unset, .unset, .unset] [(.int (2 : Int32)), (.int p5)])) (fun t k => XS.iconst X0.here hx rfl (hb hby at_16) k) ?_
      refine own_via (T' := s₁) (g' := (mkF m 18 #[.val (.int p1), .val (.int p2), .val (.int p3), .val (.int p4), .val (.int p5), .val (.int p1), .unset, .unset, .unset, .unset, .unset, .unset, .unset] [(.int (p5 &&& (2 : Int32)))])) (fun t k => XS.iand X0.here hx rfl (hb hby at_17) rfl k) ?_
      by_cases hc22 : (p5 &&& (2 : Int32)) = (0 : Int32)
      · refine own_via (T' := s₁) (g' := (mkF m 25 #[.val (.int p1), .val (.int p2), .val (.int p3), .val (.int p4), .val (.int p5), .val (.int p1), .unset, .unset, .unset, .unset, .unset, .unset, .unset] [])) (fun t k => XS.ifYes X0.here hx rfl (pc0 := 18) (pc' := 25) rfl (hb hby at_18) rfl ((if0 _ _).trans (teq hc22).1) (by decide) (by decide) k) ?_
        refine own_via (T' := s₁) (g' := (mkF m 26 #[.val (.int p1), .val (.int p2), .val (.int p3), .val (.int p4), .val (.int p5), .val (.int p1), .unset, .unset, .unset, .unset, .unset, .unset, .unset] [(.int p4)])) (fun t k => XS.iloadN X0.here hx rfl (hb hby at_25) rfl k) ?_
        refine own_via (T' := s₁) (g' := (mkF m 28 #[.val (.int p1), .val (.int p2), .val (.int p3), .val (.int p4), .val (.int p5), .val (.int p1), .val (.int p4), .unset, .unset, .unset, .unset, .unset, .unset] [])) (fun t k => XS.istore X0.here hx rfl (hb hby at_26) rfl (l' := #[.val (.int p1), .val (.int p2), .val (.int p3), .val (.int p4), .val (.int p5), .val (.int p1), .val (.int p4), .unset, .unset, .unset, .unset, .unset, .unset]) rfl k) ?_
        refine own_via (T' := s₁) (g' := (mkF m 30 #[.val (.int p1), .val (.int p2), .val (.int p3), .val (.int p4), .val (.int p5), .val (.int p1), .val (.int p4), .unset, .unset, .unset, .unset, .unset, .unset] [(.int p5)])) (fun t k => XS.iload X0.here hx rfl (hb hby at_28) rfl k) ?_
        refine own_via (T' := s₁) (g' := (mkF m 31 #[.val (.int p1), .val (.int p2), .val (.int p3), .val (.int p4), .val (.int p5), .val (.int p1), .val (.int p4), .unset, .unset, .unset, .unset, .unset, .unset] [(.int (4 : Int32)), (.int p5)])) (fun t k => XS.iconst X0.here hx rfl (hb hby at_30) k) ?_
        refine own_via (T' := s₁) (g' := (mkF m 32 #[.val (.int p1), .val (.int p2), .val (.int p3), .val (.int p4), .val (.int p5), .val (.int p1), .val (.int p4), .unset, .unset, .unset, .unset, .unset, .unset] [(.int (p5 &&& (4 : Int32)))])) (fun t k => XS.iand X0.here hx rfl (hb hby at_31) rfl k) ?_
        by_cases hc23 : (p5 &&& (4 : Int32)) = (0 : Int32)
        · refine own_via (T' := s₁) (g' := (mkF m 41 #[.val (.int p1), .val (.int p2), .val (.int p3), .val (.int p4), .val (.int p5), .val (.int p1), .val (.int p4), .unset, .unset, .unset, .unset, .unset, .unset] [])) (fun t k => XS.ifYes X0.here hx rfl (pc0 := 32) (pc' := 41) rfl (hb hby at_32) rfl ((if0 _ _).trans (teq hc23).1) (by decide) (by decide) k) ?_
          exact J1 (p1, p4) s₁ X0 e0
        · refine own_via (T' := s₁) (g' := (mkF m 35 #[.val (.int p1), .val (.int p2), .val (.int p3), .val (.int p4), .val (.int p5), .val (.int p1), .val (.int p4), .unset, .unset, .unset, .unset, .unset, .unset] [])) (fun t k => XS.ifNo X0.here hx rfl (hb hby at_32) rfl ((if0 _ _).trans (feq hc23).1) k) ?_
          refine own_via (T' := s₁) (g' := (mkF m 36 #[.val (.int p1), .val (.int p2), .val (.int p3), .val (.int p4), .val (.int p5), .val (.int p1), .val (.int p4), .unset, .unset, .unset, .unset, .unset, .unset] [(.int p2)])) (fun t k => XS.iloadN X0.here hx rfl (hb hby at_35) rfl k) ?_
          refine own_via (T' := s₁) (g' := (mkF m 38 #[.val (.int p1), .val (.int p2), .val (.int p3), .val (.int p4), .val (.int p5), .val (.int p2), .val (.int p4), .unset, .unset, .unset, .unset, .unset, .unset] [])) (fun t k => XS.istore X0.here hx rfl (hb hby at_36) rfl (l' := #[.val (.int p1), .val (.int p2), .val (.int p3), .val (.int p4), .val (.int p5), .val (.int p2), .val (.int p4), .unset, .unset, .unset, .unset, .unset, .unset]) rfl k) ?_
          refine own_via (T' := s₁) (g' := (mkF m 39 #[.val (.int p1), .val (.int p2), .val (.int p3), .val (.int p4), .val (.int p5), .val (.int p2), .val (.int p4), .unset, .unset, .unset, .unset, .unset, .unset] [(.int p1)])) (fun t k => XS.iloadN X0.here hx rfl (hb hby at_38) rfl k) ?_
          refine own_via (T' := s₁) (g' := (mkF m 41 #[.val (.int p1), .val (.int p2), .val (.int p3), .val (.int p4), .val (.int p5), .val (.int p2), .val (.int p1), .unset, .unset, .unset, .unset, .unset, .unset] [])) (fun t k => XS.istore X0.here hx rfl (hb hby at_39) rfl (l' := #[.val (.int p1), .val (.int p2), .val (.int p3), .val (.int p4), .val (.int p5), .val (.int p2), .val (.int p1), .unset, .unset, .unset, .unset, .unset, .unset]) rfl k) ?_
          exact J1 (p2, p1) s₁ X0 e0
      · refine own_via (T' := s₁) (g' := (mkF m 21 #[.val (.int p1), .val (.int p2), .val (.int p3), .val (.int p4), .val (.int p5), .val (.int p1), .unset, .unset, .unset, .unset, .unset, .unset, .unset] [])) (fun t k => XS.ifNo X0.here hx rfl (hb hby at_18) rfl ((if0 _ _).trans (feq hc22).1) k) ?_
        refine own_via (T' := s₁) (g' := (mkF m 22 #[.val (.int p1), .val (.int p2), .val (.int p3), .val (.int p4), .val (.int p5), .val (.int p1), .unset, .unset, .unset, .unset, .unset, .unset, .unset] [(.int p2)])) (fun t k => XS.iloadN X0.here hx rfl (hb hby at_21) rfl k) ?_
        refine own_via (T' := s₁) (g' := (mkF m 26 #[.val (.int p1), .val (.int p2), .val (.int p3), .val (.int p4), .val (.int p5), .val (.int p1), .unset, .unset, .unset, .unset, .unset, .unset, .unset] [(.int p2)])) (fun t k => XS.goto X0.here hx rfl (pc0 := 22) (pc' := 26) rfl (hb hby at_22) (by decide) (by decide) k) ?_
        refine own_via (T' := s₁) (g' := (mkF m 28 #[.val (.int p1), .val (.int p2), .val (.int p3), .val (.int p4), .val (.int p5), .val (.int p1), .val (.int p2), .unset, .unset, .unset, .unset, .unset, .unset] [])) (fun t k => XS.istore X0.here hx rfl (hb hby at_26) rfl (l' := #[.val (.int p1), .val (.int p2), .val (.int p3), .val (.int p4), .val (.int p5), .val (.int p1), .val (.int p2), .unset, .unset, .unset, .unset, .unset, .unset]) rfl k) ?_
        refine own_via (T' := s₁) (g' := (mkF m 30 #[.val (.int p1), .val (.int p2), .val (.int p3), .val (.int p4), .val (.int p5), .val (.int p1), .val (.int p2), .unset, .unset, .unset, .unset, .unset, .unset] [(.int p5)])) (fun t k => XS.iload X0.here hx rfl (hb hby at_28) rfl k) ?_
        refine own_via (T' := s₁) (g' := (mkF m 31 #[.val (.int p1), .val (.int p2), .val (.int p3), .val (.int p4), .val (.int p5), .val (.int p1), .val (.int p2), .unset, .unset, .unset, .unset, .unset, .unset] [(.int (4 : Int32)), (.int p5)])) (fun t k => XS.iconst X0.here hx rfl (hb hby at_30) k) ?_
        refine own_via (T' := s₁) (g' := (mkF m 32 #[.val (.int p1), .val (.int p2), .val (.int p3), .val (.int p4), .val (.int p5), .val (.int p1), .val (.int p2), .unset, .unset, .unset, .unset, .unset, .unset] [(.int (p5 &&& (4 : Int32)))])) (fun t k => XS.iand X0.here hx rfl (hb hby at_31) rfl k) ?_
        by_cases hc24 : (p5 &&& (4 : Int32)) = (0 : Int32)
        · refine own_via (T' := s₁) (g' := (mkF m 41 #[.val (.int p1), .val (.int p2), .val (.int p3), .val (.int p4), .val (.int p5), .val (.int p1), .val (.int p2), .unset, .unset, .unset, .unset, .unset, .unset] [])) (fun t k => XS.ifYes X0.here hx rfl (pc0 := 32) (pc' := 41) rfl (hb hby at_32) rfl ((if0 _ _).trans (teq hc24).1) (by decide) (by decide) k) ?_
          exact J1 (p1, p2) s₁ X0 e0
        · refine own_via (T' := s₁) (g' := (mkF m 35 #[.val (.int p1), .val (.int p2), .val (.int p3), .val (.int p4), .val (.int p5), .val (.int p1), .val (.int p2), .unset, .unset, .unset, .unset, .unset, .unset] [])) (fun t k => XS.ifNo X0.here hx rfl (hb hby at_32) rfl ((if0 _ _).trans (feq hc24).1) k) ?_
          refine own_via (T' := s₁) (g' := (mkF m 36 #[.val (.int p1), .val (.int p2), .val (.int p3), .val (.int p4), .val (.int p5), .val (.int p1), .val (.int p2), .unset, .unset, .unset, .unset, .unset, .unset] [(.int p2)])) (fun t k => XS.iloadN X0.here hx rfl (hb hby at_35) rfl k) ?_
          refine own_via (T' := s₁) (g' := (mkF m 38 #[.val (.int p1), .val (.int p2), .val (.int p3), .val (.int p4), .val (.int p5), .val (.int p2), .val (.int p2), .unset, .unset, .unset, .unset, .unset, .unset] [])) (fun t k => XS.istore X0.here hx rfl (hb hby at_36) rfl (l' := #[.val (.int p1), .val (.int p2), .val (.int p3), .val (.int p4), .val (.int p5), .val (.int p2), .val (.int p2), .unset, .unset, .unset, .unset, .unset, .unset]) rfl k) ?_
          refine own_via (T' := s₁) (g' := (mkF m 39 #[.val (.int p1), .val (.int p2), .val (.int p3), .val (.int p4), .val (.int p5), .val (.int p2), .val (.int p2), .unset, .unset, .unset, .unset, .unset, .unset] [(.int p1)])) (fun t k => XS.iloadN X0.here hx rfl (hb hby at_38) rfl k) ?_
          refine own_via (T' := s₁) (g' := (mkF m 41 #[.val (.int p1), .val (.int p2), .val (.int p3), .val (.int p4), .val (.int p5), .val (.int p2), .val (.int p1), .unset, .unset, .unset, .unset, .unset, .unset] [])) (fun t k => XS.istore X0.here hx rfl (hb hby at_39) rfl (l' := #[.val (.int p1), .val (.int p2), .val (.int p3), .val (.int p4), .val (.int p5), .val (.int p2), .val (.int p1), .unset, .unset, .unset, .unset, .unset, .unset]) rfl k) ?_
          exact J1 (p2, p1) s₁ X0 e0
theorem own_bxv {Z : State} {args : Array Value} (X : Term) (j : Int32) (hj : ¬ j < 0) (h : (Cond.eq X (.sub (.index 0) (.int 128))).value args Z none Z [j.toNatClampNeg] = some true) : X.eval args Z none [j.toNatClampNeg] Z = some (.int (j - 128)) :=
  eqv_i (Term.sub_int (idx_at hj) rfl) h
set_option maxRecDepth 65536 in
set_option maxHeartbeats 40000000 in
theorem comes_1 {Post : Tables → Env → Array Value → State → Outcome → State → Prop} (hpost : ∀ tb e args s v u, (limb_1_1.after args s (.returned v) u = true ∧ limb_1_2.after args s (.returned v) u = true ∧ True) → FrameEnd s (.returned v) u (Jvm.fieldLocs frame_1_writes args s ++ Jvm.arrayLocs frame_1_arrays args s ++ Jvm.staticLocs frame_1_statics s) 16 128 → Post tb e args s (.returned v) u) :
    ArmFor flags0 classFile x code maxLocals ret World_1 tables_1 room_1 Calls_1 rest_1 Pre_1 Post := by
  intro l hfl _ _ p e ha hc hk s m args below hf hA hF happ hP
  obtain ⟨hcalls, hrest, hpre⟩ := hP
  obtain ⟨-, -, -, hnamed, -, -, -, hat⟩ := (Spec.applies_iff hf).mp happ
  obtain ⟨hg, hn⟩ := and_e (Cond.before_iff.mp (show (Jvm.Cond.and given_1 narrow_1).before args s = true from hpre))
  obtain ⟨g1a, g1b⟩ := and_e hg
  obtain ⟨g2a, g2b⟩ := and_e g1b
  obtain ⟨g3a, g3b⟩ := and_e g2b
  obtain ⟨g4a, g4b⟩ := and_e g3b
  obtain ⟨g5a, g5b⟩ := and_e g4b
  obtain ⟨w0, w1, w2, w3, w4, rfl⟩ : ∃ w0 w1 w2 w3 w4 : Value, args = #[w0, w1, w2, w3, w4] := by
    have hs : args.size = 5 := by simpa [Cond.value, given_1] using g1a
    obtain ⟨L⟩ := args
    match L, hs with
    | [w0, w1, w2, w3, w4], _ => exact ⟨w0, w1, w2, w3, w4, rfl⟩
  have hw := fun d (hd : d ∈ tables_1) => atoms_spec (ws := Jvm.Cond.code x code maxLocals ret :: tables_1) hat d (List.mem_cons_of_mem _ hd)
  have hfit : Fit s := fun {y c} hc i hi => by
    obtain ⟨ha, rfl⟩ := Array.getElem?_eq_some_iff.mp hc
    have q := List.all_eq_true.mp ((Array.all_eq_true_iff_forall_mem.mp hF) _ (Array.getElem_mem ha)) i (List.mem_range.mpr hi)
    simpa [Array.getElem?_eq_getElem hi] using q
  obtain ⟨hsets, hown0⟩ := atoms_of _ (rest_1_c_eq ▸ (show rest_1_c.before _ s = true from hrest))
  obtain ⟨i0, ei0⟩ := is_v g2a
  obtain rfl : w0 = (.int i0) := Option.some.inj ei0
  obtain ⟨i1, ei1⟩ := is_v g3a
  obtain rfl : w1 = (.int i1) := Option.some.inj ei1
  obtain ⟨i2, ei2⟩ := is_v g4a
  obtain rfl : w2 = (.int i2) := Option.some.inj ei2
  obtain ⟨i3, ei3⟩ := is_v g5a
  obtain rfl : w3 = (.int i3) := Option.some.inj ei3
  obtain ⟨i4, ei4⟩ := is_v g5b
  obtain rfl : w4 = (.int i4) := Option.some.inj ei4
  have h3 := own_evI (Cond.before_iff.mp (hsets _ (List.mem_of_getElem? (i := 3) rfl)))
  have SH := Sta.start h3 (Or.inl (hsets _ (List.mem_of_getElem? (i := 1) rfl)))
  have h5 := Cond.before_iff.mp (hsets _ (List.mem_of_getElem? (i := 5) rfl))
  obtain ⟨ca, evc⟩ := exa_v h5
  have SC := Sta.start evc (Or.inr ⟨(hw _ (List.mem_of_getElem? (i := 30) rfl)), (hsets _ (List.mem_of_getElem? (i := 2) rfl))⟩)
  obtain ⟨cc, AR⟩ := Arr.start evc (Cond.before_iff.mp (hsets _ (List.mem_of_getElem? (i := 4) rfl)))
  have hlen := own_evI (Cond.before_iff.mp (hsets _ (List.mem_of_getElem? (i := 6) rfl)))
  obtain ⟨hsz, hz⟩ := own_len evc AR hlen
  have BXS := Bxs.start (val := fun j => .int (j - 128)) (fun _ => evc) AR hsz hz (by decide) (Cond.before_iff.mp (hsets _ (List.mem_of_getElem? (i := 7) rfl))) own_bxv
  have BX : ∀ j : Int32, ¬ (j < 0 ∨ cc.slots.size ≤ j.toNatClampNeg) → ∃ box, cc.slots[j.toNatClampNeg]? = some (.ref box) ∧ Exa s s.heap box "java/lang/Integer" := fun j hj => let ⟨box, q1, q2, _⟩ := BXS.2.2.2 j hj; ⟨box, q1, q2⟩
  obtain ⟨n, o, h1, h2, h3, _, L, rfl, hQ, hq⟩ := own_c0 l s _ hw i0 i1 i2 i3 i4 ca cc s.heap SH SC AR BXS.2.1 BX p e ha hc hk s m _ below hf ((Spec.applies_iff_loose hf).mp happ).1 ⟨rfl, State.Warmed39.refl s, rfl⟩ trivial
  obtain ⟨rfl, N⟩ := own_fin hQ
  refine ⟨n, _, h1, h2, h3, hpost _ _ _ _ _ _ ⟨Cond.after_iff.mpr rfl, Cond.after_iff.mpr (eq_i res_at (Term.int_eval (1)) rfl), trivial⟩ ⟨hq.1, hq.2.1, (hq.2.2.sift fun y hy => Or.inr (N y hy)).mono (by decide) (by decide)⟩⟩
theorem main_1_1 : Claimed_1_1 := comes_1 fun _ _ _ _ _ _ h hF => ⟨h.1, hF⟩
theorem main_1_2 : Claimed_1_2 := comes_1 fun _ _ _ _ _ _ h hF => ⟨h.2.1, hF⟩
end Jvm.Pilot.@@N@@
namespace Jvm.Pilot.@@N@@
open Jvm Jvm.ClassFile Sem Op Lib Jvm.Free Jvm.Stand Jvm.Pilot.@@N@@.Jvm.D
/-! MADE BY PROGRAM (witnessworld.py) out of the Statement's table words and the real class files: 17 classes; the members and pool entries that the words name. The judged class is class 1, her method 1. -/
namespace start1
open Jvm.ClassFile
def u (s : String) : CpInfo := .utf8 (stringToUtf16 s)
/-- a pool by its gaps: so many unusable entries, then the entry; so many at the end -/
def gap : Nat → List CpInfo → List CpInfo
  | 0, r => r
  | n + 1, r => .unusable :: gap n r
def poolList (es : List (Nat × CpInfo)) (last : Nat) : List CpInfo := es.foldr (fun e r => gap e.1 (e.2 :: r)) (gap last [])
def pool (es : List (Nat × CpInfo)) (last : Nat) : Array CpInfo := ⟨poolList es last⟩
def fileOf (pool : Array CpInfo) (this : Nat) (attrs : Array Attribute := #[]) (ms : Array MethodInfo := #[]) (fl : Nat := 33) (sup : Nat := 0) (ifs : Array Nat := #[]) (fds : Array FieldInfo := #[]) : ClassFile where
  minorVersion := 0
  majorVersion := 65
  constantPool := pool
  accessFlags := fl
  thisClass := this
  superClass := sup
  interfaces := ifs
  fields := fds
  methods := ms
  attributes := attrs
def plain (name : String) (sup : Option ClassId) : Class where
  name := name
  kind := .ordinary
  loader := none
  accessFlags := 33
  super := sup
  interfaces := #[]
  cf := none
  fields := #[]
  methods := #[]
  instanceTypes := #[]
  staticTypes := #[]
  resolved := #[]
  callSites := []
  init := .initialized
  statics := none
  mirror := none

def pool0 : Array CpInfo := pool [(5, u "<init>"), (0, u "()V"), (1, .class_ 10), (1, u "java/lang/Object")] 113

def k0c0 : Code := { maxStack := 0, maxLocals := 1, code := object_method_1_code, exceptionTable := #[], attributes := #[] }
def k0m0 : Method := { name := "<init>", desc := "()V", sig := { parameters := [], returnType := none }, accessFlags := 1, code := some k0c0 }
/-- java/lang/Object -/
def k0 : Class := { plain "java/lang/Object" none with
  accessFlags := 33
  interfaces := #[]
  cf := some (fileOf pool0 8 #[] #[{ accessFlags := 1, nameIndex := 5, descriptorIndex := 6, attributes := #[] }] 33 0 #[] #[])
  fields := #[]
  methods := #[k0m0]
  instanceTypes := #[]
  staticTypes := #[]
  resolved := Array.replicate 124 none
  statics := none }

def pool1 : Array CpInfo := pool [(2, .class_ 4), (1, u "java/lang/Object"), (0, u "<init>"), (0, u "()V"), (0, .class_ 8), (0, u "com/example/lazytail/lazytail/media/Rung"), (0, .methodref 7 10), (0, .nameAndType 5 11), (0, u "(II)V"), (0, .methodref 13 14), (0, .class_ 15), (0, .nameAndType 16 17), (0, u "java/lang/Integer"), (0, u "valueOf"), (0, u "(I)Ljava/lang/Integer;"), (0, .methodref 7 19), (0, .nameAndType 20 21), (0, u "equals"), (0, u "(Ljava/lang/Object;)Z"), (0, .class_ 23), (0, u "com/example/lazytail/lazytail/media/RungEqualsPinLaw"), (2, u "law"), (0, u "(IIIII)Z")] 3

def k1m0 : Method := { name := "<init>", desc := "()V", sig := { parameters := [], returnType := none }, accessFlags := 1, code := none }
def k1c1 : Code := { maxStack := 4, maxLocals := 13, code := code, exceptionTable := #[], attributes := #[] }
def k1m1 : Method := { name := "law", desc := "(IIIII)Z", sig := { parameters := [.int, .int, .int, .int, .int], returnType := some .boolean }, accessFlags := 9, code := some k1c1 }
/-- com/example/lazytail/lazytail/media/RungEqualsPinLaw -/
def k1 : Class := { plain "com/example/lazytail/lazytail/media/RungEqualsPinLaw" (some 0) with
  accessFlags := 49
  interfaces := #[]
  cf := some (fileOf pool1 22 #[] #[{ accessFlags := 1, nameIndex := 5, descriptorIndex := 6, attributes := #[] }, { accessFlags := 9, nameIndex := 26, descriptorIndex := 27, attributes := #[] }] 49 2 #[] #[])
  fields := #[]
  methods := #[k1m0, k1m1]
  instanceTypes := #[]
  staticTypes := #[]
  resolved := Array.replicate 31 none
  statics := none }

def pool2 : Array CpInfo := pool [(1, .methodref 2 3), (0, .class_ 4), (0, .nameAndType 5 6), (0, u "java/lang/Object"), (0, u "<init>"), (0, u "()V"), (0, .class_ 8), (0, u "java/lang/Record")] 13

def k2c0 : Code := { maxStack := 1, maxLocals := 1, code := jdk_30_method_1_code, exceptionTable := #[], attributes := #[] }
def k2m0 : Method := { name := "<init>", desc := "()V", sig := { parameters := [], returnType := none }, accessFlags := 4, code := some k2c0 }
/-- java/lang/Record -/
def k2 : Class := { plain "java/lang/Record" (some 0) with
  accessFlags := 1057
  interfaces := #[]
  cf := some (fileOf pool2 7 #[] #[{ accessFlags := 4, nameIndex := 5, descriptorIndex := 6, attributes := #[] }] 1057 2 #[] #[])
  fields := #[]
  methods := #[k2m0]
  instanceTypes := #[]
  staticTypes := #[]
  resolved := Array.replicate 22 none
  statics := none }

def pool3 : Array CpInfo := pool [(1, .methodref 2 3), (0, .class_ 4), (0, .nameAndType 5 6), (0, u "java/lang/Record"), (0, u "<init>"), (0, u "()V"), (0, .fieldref 8 9), (0, .class_ 10), (0, .nameAndType 11 12), (0, u "com/example/lazytail/lazytail/media/Rung"), (0, u "height"), (0, u "I"), (0, .fieldref 8 14), (0, .nameAndType 15 12), (0, u "peakKbps"), (12, u "(II)V"), (6, u "DEFAULT_KBPS_BESIDE_PICTURES"), (2, u "DEFAULT_SQUARED_HEIGHT_PER_KBPS"), (4, u "equals"), (0, u "(Ljava/lang/Object;)Z")] 29

def k3c0 : Code := { maxStack := 2, maxLocals := 3, code := prog_23_method_1_code, exceptionTable := #[], attributes := #[] }
def k3m0 : Method := { name := "<init>", desc := "(II)V", sig := { parameters := [.int, .int], returnType := none }, accessFlags := 1, code := some k3c0 }
def k3c1 : Code := { maxStack := 2, maxLocals := 3, code := prog_23_method_2_code, exceptionTable := #[], attributes := #[] }
def k3m1 : Method := { name := "equals", desc := "(Ljava/lang/Object;)Z", sig := { parameters := [(.object "java/lang/Object")], returnType := some .boolean }, accessFlags := 1, code := some k3c1 }
/-- com/example/lazytail/lazytail/media/Rung -/
def k3 : Class := { plain "com/example/lazytail/lazytail/media/Rung" (some 2) with
  accessFlags := 49
  interfaces := #[]
  cf := some (fileOf pool3 8 #[] #[{ accessFlags := 1, nameIndex := 5, descriptorIndex := 28, attributes := #[] }, { accessFlags := 1, nameIndex := 43, descriptorIndex := 44, attributes := #[] }] 49 2 #[] #[{ accessFlags := 18, nameIndex := 11, descriptorIndex := 12, attributes := #[] }, { accessFlags := 18, nameIndex := 15, descriptorIndex := 12, attributes := #[] }, { accessFlags := 26, nameIndex := 35, descriptorIndex := 12, attributes := #[] }, { accessFlags := 26, nameIndex := 38, descriptorIndex := 12, attributes := #[] }])
  fields := #[{ name := "height", type := .int, accessFlags := 18, slot := 0, constantValue := 0 }, { name := "peakKbps", type := .int, accessFlags := 18, slot := 1, constantValue := 0 }, { name := "DEFAULT_KBPS_BESIDE_PICTURES", type := .int, accessFlags := 26, slot := 0, constantValue := 0 }, { name := "DEFAULT_SQUARED_HEIGHT_PER_KBPS", type := .int, accessFlags := 26, slot := 1, constantValue := 0 }]
  methods := #[k3m0, k3m1]
  instanceTypes := #[.int, .int]
  staticTypes := #[.int, .int]
  resolved := Array.replicate 74 none
  statics := none }

def pool4 : Array CpInfo := pool [(1, .class_ 2), (0, u "java/io/Serializable"), (0, .class_ 4), (0, u "java/lang/Object")] 2

/-- java/io/Serializable -/
def k4 : Class := { plain "java/io/Serializable" (some 0) with
  accessFlags := 1537
  interfaces := #[]
  cf := some (fileOf pool4 1 #[] #[] 1537 3 #[] #[])
  fields := #[]
  methods := #[]
  instanceTypes := #[]
  staticTypes := #[]
  resolved := Array.replicate 7 none
  statics := none }

def pool5 : Array CpInfo := pool [(1, .methodref 2 3), (0, .class_ 4), (0, .nameAndType 5 6), (0, u "java/lang/Object"), (0, u "<init>"), (0, u "()V"), (1, .class_ 10), (1, u "java/lang/Number"), (2, .class_ 14), (0, u "java/io/Serializable"), (0, u "serialVersionUID"), (0, u "J")] 20

def k5c0 : Code := { maxStack := 1, maxLocals := 1, code := jdk_18_method_1_code, exceptionTable := #[], attributes := #[] }
def k5m0 : Method := { name := "<init>", desc := "()V", sig := { parameters := [], returnType := none }, accessFlags := 1, code := some k5c0 }
/-- java/lang/Number -/
def k5 : Class := { plain "java/lang/Number" (some 0) with
  accessFlags := 1057
  interfaces := #[4]
  cf := some (fileOf pool5 8 #[] #[{ accessFlags := 1, nameIndex := 5, descriptorIndex := 6, attributes := #[] }] 1057 2 #[13] #[{ accessFlags := 26, nameIndex := 15, descriptorIndex := 16, attributes := #[] }])
  fields := #[{ name := "serialVersionUID", type := .long, accessFlags := 26, slot := 0, constantValue := 0 }]
  methods := #[k5m0]
  instanceTypes := #[]
  staticTypes := #[.long]
  resolved := Array.replicate 37 none
  statics := none }

def pool6 : Array CpInfo := pool [(1, .class_ 2), (0, u "java/lang/Comparable"), (0, .class_ 4), (0, u "java/lang/Object")] 7

/-- java/lang/Comparable -/
def k6 : Class := { plain "java/lang/Comparable" (some 0) with
  accessFlags := 1537
  interfaces := #[]
  cf := some (fileOf pool6 1 #[] #[] 1537 3 #[] #[])
  fields := #[]
  methods := #[]
  instanceTypes := #[]
  staticTypes := #[]
  resolved := Array.replicate 12 none
  statics := none }

def pool7 : Array CpInfo := pool [(1, .class_ 2), (0, u "java/lang/constant/Constable"), (0, .class_ 4), (0, u "java/lang/Object")] 6

/-- java/lang/constant/Constable -/
def k7 : Class := { plain "java/lang/constant/Constable" (some 0) with
  accessFlags := 1537
  interfaces := #[]
  cf := some (fileOf pool7 1 #[] #[] 1537 3 #[] #[])
  fields := #[]
  methods := #[]
  instanceTypes := #[]
  staticTypes := #[]
  resolved := Array.replicate 11 none
  statics := none }

def pool8 : Array CpInfo := pool [(1, .class_ 2), (0, u "java/lang/constant/ConstantDesc"), (0, .class_ 4), (0, u "java/lang/Object")] 32

/-- java/lang/constant/ConstantDesc -/
def k8 : Class := { plain "java/lang/constant/ConstantDesc" (some 0) with
  accessFlags := 1537
  interfaces := #[]
  cf := some (fileOf pool8 1 #[] #[] 1537 3 #[] #[])
  fields := #[]
  methods := #[]
  instanceTypes := #[]
  staticTypes := #[]
  resolved := Array.replicate 37 none
  statics := none }

def pool9 : Array CpInfo := pool [(1, .class_ 2), (0, u "java/lang/Integer"), (16, u "digits"), (0, u "[C"), (46, u "<init>"), (17, u "DigitOnes"), (0, u "[B"), (2, u "DigitTens"), (10, .nameAndType 67 101), (0, u "()V"), (85, u "valueOf"), (0, u "(I)Ljava/lang/Integer;"), (0, .class_ 190), (0, u "java/lang/Integer$IntegerCache"), (0, .fieldref 189 192), (0, .nameAndType 193 194), (0, u "high"), (0, u "I"), (0, .fieldref 189 196), (0, .nameAndType 197 198), (0, u "cache"), (0, u "[Ljava/lang/Integer;"), (0, .methodref 1 200), (0, .nameAndType 67 201), (0, u "(I)V"), (0, .methodref 203 100), (0, .class_ 204), (0, u "java/lang/Number"), (0, .fieldref 1 206), (0, .nameAndType 207 194), (0, u "value"), (94, u "TYPE"), (0, u "Ljava/lang/Class;"), (0, .class_ 305), (0, u "java/lang/Comparable"), (0, .class_ 307), (0, u "java/lang/constant/Constable"), (0, .class_ 309), (0, u "java/lang/constant/ConstantDesc"), (0, u "MIN_VALUE"), (1, u "MAX_VALUE"), (3, u "SIZE"), (1, u "BYTES"), (1, u "serialVersionUID"), (0, u "J")] 131

def k9c0 : Code := { maxStack := 3, maxLocals := 1, code := jdk_33_method_22_code, exceptionTable := #[], attributes := #[] }
def k9m0 : Method := { name := "valueOf", desc := "(I)Ljava/lang/Integer;", sig := { parameters := [.int], returnType := some (.object "java/lang/Integer") }, accessFlags := 9, code := some k9c0 }
def k9c1 : Code := { maxStack := 2, maxLocals := 2, code := jdk_33_method_23_code, exceptionTable := #[], attributes := #[] }
def k9m1 : Method := { name := "<init>", desc := "(I)V", sig := { parameters := [.int], returnType := none }, accessFlags := 1, code := some k9c1 }
/-- java/lang/Integer -/
def k9 : Class := { plain "java/lang/Integer" (some 5) with
  accessFlags := 49
  interfaces := #[6, 7, 8]
  cf := some (fileOf pool9 1 #[.nestMembers #[189]] #[{ accessFlags := 9, nameIndex := 187, descriptorIndex := 188, attributes := #[] }, { accessFlags := 1, nameIndex := 67, descriptorIndex := 201, attributes := #[] }] 49 203 #[304, 306, 308] #[{ accessFlags := 25, nameIndex := 310, descriptorIndex := 194, attributes := #[] }, { accessFlags := 25, nameIndex := 312, descriptorIndex := 194, attributes := #[] }, { accessFlags := 25, nameIndex := 302, descriptorIndex := 303, attributes := #[] }, { accessFlags := 24, nameIndex := 19, descriptorIndex := 20, attributes := #[] }, { accessFlags := 24, nameIndex := 89, descriptorIndex := 86, attributes := #[] }, { accessFlags := 24, nameIndex := 85, descriptorIndex := 86, attributes := #[] }, { accessFlags := 18, nameIndex := 207, descriptorIndex := 194, attributes := #[] }, { accessFlags := 25, nameIndex := 316, descriptorIndex := 194, attributes := #[] }, { accessFlags := 25, nameIndex := 318, descriptorIndex := 194, attributes := #[] }, { accessFlags := 26, nameIndex := 320, descriptorIndex := 321, attributes := #[] }])
  fields := #[{ name := "MIN_VALUE", type := .int, accessFlags := 25, slot := 0, constantValue := 0 }, { name := "MAX_VALUE", type := .int, accessFlags := 25, slot := 1, constantValue := 0 }, { name := "TYPE", type := (.object "java/lang/Class"), accessFlags := 25, slot := 2, constantValue := 0 }, { name := "digits", type := (.array .char), accessFlags := 24, slot := 3, constantValue := 0 }, { name := "DigitTens", type := (.array .byte), accessFlags := 24, slot := 4, constantValue := 0 }, { name := "DigitOnes", type := (.array .byte), accessFlags := 24, slot := 5, constantValue := 0 }, { name := "value", type := .int, accessFlags := 18, slot := 0, constantValue := 0 }, { name := "SIZE", type := .int, accessFlags := 25, slot := 6, constantValue := 0 }, { name := "BYTES", type := .int, accessFlags := 25, slot := 7, constantValue := 0 }, { name := "serialVersionUID", type := .long, accessFlags := 26, slot := 8, constantValue := 0 }]
  methods := #[k9m0, k9m1]
  instanceTypes := #[.int]
  staticTypes := #[.int, .int, (.object "java/lang/Class"), (.array .char), (.array .byte), (.array .byte), .int, .int, .long]
  resolved := Array.replicate 453 none
  statics := none }

def pool10 : Array CpInfo := pool [(2, .class_ 4), (1, u "java/lang/Object"), (0, u "<init>"), (0, u "()V"), (0, .class_ 8), (0, u "java/lang/Integer"), (7, .class_ 18), (1, u "java/lang/Integer$IntegerCache"), (0, u "$assertionsDisabled"), (0, u "Z"), (26, u "high"), (0, u "I"), (8, u "archivedCache"), (0, u "[Ljava/lang/Integer;"), (12, u "cache"), (0, u "low")] 27

def k10m0 : Method := { name := "<init>", desc := "()V", sig := { parameters := [], returnType := none }, accessFlags := 2, code := none }
/-- java/lang/Integer$IntegerCache -/
def k10 : Class := { plain "java/lang/Integer$IntegerCache" (some 0) with
  accessFlags := 48
  interfaces := #[]
  cf := some (fileOf pool10 16 #[.nestHost 7] #[{ accessFlags := 2, nameIndex := 5, descriptorIndex := 6, attributes := #[] }] 48 2 #[] #[{ accessFlags := 24, nameIndex := 72, descriptorIndex := 48, attributes := #[] }, { accessFlags := 24, nameIndex := 47, descriptorIndex := 48, attributes := #[] }, { accessFlags := 24, nameIndex := 71, descriptorIndex := 58, attributes := #[] }, { accessFlags := 8, nameIndex := 57, descriptorIndex := 58, attributes := #[] }, { accessFlags := 4120, nameIndex := 19, descriptorIndex := 20, attributes := #[] }])
  fields := #[{ name := "low", type := .int, accessFlags := 24, slot := 0, constantValue := 0 }, { name := "high", type := .int, accessFlags := 24, slot := 1, constantValue := 0 }, { name := "cache", type := (.array (.object "java/lang/Integer")), accessFlags := 24, slot := 2, constantValue := 0 }, { name := "archivedCache", type := (.array (.object "java/lang/Integer")), accessFlags := 8, slot := 3, constantValue := 0 }, { name := "$assertionsDisabled", type := .boolean, accessFlags := 4120, slot := 4, constantValue := 0 }]
  methods := #[k10m0]
  instanceTypes := #[]
  staticTypes := #[.int, .int, (.array (.object "java/lang/Integer")), (.array (.object "java/lang/Integer")), .boolean]
  resolved := Array.replicate 100 none
  statics := some 0 }

def pool11 : Array CpInfo := pool [(1, u "java/lang/Cloneable"), (0, .class_ 1), (0, u "java/lang/Object"), (0, .class_ 3)] 3

/-- java/lang/Cloneable -/
def k11 : Class := { plain "java/lang/Cloneable" (some 0) with
  accessFlags := 1537
  interfaces := #[]
  cf := some (fileOf pool11 2 #[] #[] 1537 4 #[] #[])
  fields := #[]
  methods := #[]
  instanceTypes := #[]
  staticTypes := #[]
  resolved := Array.replicate 8 none
  statics := none }

/-- the primitive byte -/
def k12 : Class := { plain "byte" none with kind := .primitive 'B', accessFlags := 0x411 }
/-- [B -/
def k13 : Class := { plain "[B" (some 0) with kind := .array 12 .byte, interfaces := #[11, 4], accessFlags := 1041 }

/-- the primitive int -/
def k14 : Class := { plain "int" none with kind := .primitive 'I', accessFlags := 0x411 }
/-- [I -/
def k15 : Class := { plain "[I" (some 0) with kind := .array 14 .int, interfaces := #[11, 4], accessFlags := 1041 }

/-- [Ljava/lang/Integer; -/
def k16 : Class := { plain "[Ljava/lang/Integer;" (some 0) with kind := .array 9 (.object "java/lang/Integer"), interfaces := #[11, 4], accessFlags := 1041 }

def heap : Heap := #[{ cls := 10, slots := #[.int 0, .int 127, .ref 1, .null, .int 0], vm := .statics 10 },
  { cls := 16, slots := #[.ref 2, .ref 3, .ref 4, .ref 5, .ref 6, .ref 7, .ref 8, .ref 9, .ref 10, .ref 11, .ref 12, .ref 13, .ref 14, .ref 15, .ref 16, .ref 17, .ref 18, .ref 19, .ref 20, .ref 21, .ref 22, .ref 23, .ref 24, .ref 25, .ref 26, .ref 27, .ref 28, .ref 29, .ref 30, .ref 31, .ref 32, .ref 33, .ref 34, .ref 35, .ref 36, .ref 37, .ref 38, .ref 39, .ref 40, .ref 41, .ref 42, .ref 43, .ref 44, .ref 45, .ref 46, .ref 47, .ref 48, .ref 49, .ref 50, .ref 51, .ref 52, .ref 53, .ref 54, .ref 55, .ref 56, .ref 57, .ref 58, .ref 59, .ref 60, .ref 61, .ref 62, .ref 63, .ref 64, .ref 65, .ref 66, .ref 67, .ref 68, .ref 69, .ref 70, .ref 71, .ref 72, .ref 73, .ref 74, .ref 75, .ref 76, .ref 77, .ref 78, .ref 79, .ref 80, .ref 81, .ref 82, .ref 83, .ref 84, .ref 85, .ref 86, .ref 87, .ref 88, .ref 89, .ref 90, .ref 91, .ref 92, .ref 93, .ref 94, .ref 95, .ref 96, .ref 97, .ref 98, .ref 99, .ref 100, .ref 101, .ref 102, .ref 103, .ref 104, .ref 105, .ref 106, .ref 107, .ref 108, .ref 109, .ref 110, .ref 111, .ref 112, .ref 113, .ref 114, .ref 115, .ref 116, .ref 117, .ref 118, .ref 119, .ref 120, .ref 121, .ref 122, .ref 123, .ref 124, .ref 125, .ref 126, .ref 127, .ref 128, .ref 129, .ref 130, .ref 131, .ref 132, .ref 133, .ref 134, .ref 135, .ref 136, .ref 137, .ref 138, .ref 139, .ref 140, .ref 141, .ref 142, .ref 143, .ref 144, .ref 145, .ref 146, .ref 147, .ref 148, .ref 149, .ref 150, .ref 151, .ref 152, .ref 153, .ref 154, .ref 155, .ref 156, .ref 157, .ref 158, .ref 159, .ref 160, .ref 161, .ref 162, .ref 163, .ref 164, .ref 165, .ref 166, .ref 167, .ref 168, .ref 169, .ref 170, .ref 171, .ref 172, .ref 173, .ref 174, .ref 175, .ref 176, .ref 177, .ref 178, .ref 179, .ref 180, .ref 181, .ref 182, .ref 183, .ref 184, .ref 185, .ref 186, .ref 187, .ref 188, .ref 189, .ref 190, .ref 191, .ref 192, .ref 193, .ref 194, .ref 195, .ref 196, .ref 197, .ref 198, .ref 199, .ref 200, .ref 201, .ref 202, .ref 203, .ref 204, .ref 205, .ref 206, .ref 207, .ref 208, .ref 209, .ref 210, .ref 211, .ref 212, .ref 213, .ref 214, .ref 215, .ref 216, .ref 217, .ref 218, .ref 219, .ref 220, .ref 221, .ref 222, .ref 223, .ref 224, .ref 225, .ref 226, .ref 227, .ref 228, .ref 229, .ref 230, .ref 231, .ref 232, .ref 233, .ref 234, .ref 235, .ref 236, .ref 237, .ref 238, .ref 239, .ref 240, .ref 241, .ref 242, .ref 243, .ref 244, .ref 245, .ref 246, .ref 247, .ref 248, .ref 249, .ref 250, .ref 251, .ref 252, .ref 253, .ref 254, .ref 255, .ref 256, .ref 257], vm := .none },
  { cls := 9, slots := #[.int (-128)], vm := .none },
  { cls := 9, slots := #[.int (-127)], vm := .none },
  { cls := 9, slots := #[.int (-126)], vm := .none },
  { cls := 9, slots := #[.int (-125)], vm := .none },
  { cls := 9, slots := #[.int (-124)], vm := .none },
  { cls := 9, slots := #[.int (-123)], vm := .none },
  { cls := 9, slots := #[.int (-122)], vm := .none },
  { cls := 9, slots := #[.int (-121)], vm := .none },
  { cls := 9, slots := #[.int (-120)], vm := .none },
  { cls := 9, slots := #[.int (-119)], vm := .none },
  { cls := 9, slots := #[.int (-118)], vm := .none },
  { cls := 9, slots := #[.int (-117)], vm := .none },
  { cls := 9, slots := #[.int (-116)], vm := .none },
  { cls := 9, slots := #[.int (-115)], vm := .none },
  { cls := 9, slots := #[.int (-114)], vm := .none },
  { cls := 9, slots := #[.int (-113)], vm := .none },
  { cls := 9, slots := #[.int (-112)], vm := .none },
  { cls := 9, slots := #[.int (-111)], vm := .none },
  { cls := 9, slots := #[.int (-110)], vm := .none },
  { cls := 9, slots := #[.int (-109)], vm := .none },
  { cls := 9, slots := #[.int (-108)], vm := .none },
  { cls := 9, slots := #[.int (-107)], vm := .none },
  { cls := 9, slots := #[.int (-106)], vm := .none },
  { cls := 9, slots := #[.int (-105)], vm := .none },
  { cls := 9, slots := #[.int (-104)], vm := .none },
  { cls := 9, slots := #[.int (-103)], vm := .none },
  { cls := 9, slots := #[.int (-102)], vm := .none },
  { cls := 9, slots := #[.int (-101)], vm := .none },
  { cls := 9, slots := #[.int (-100)], vm := .none },
  { cls := 9, slots := #[.int (-99)], vm := .none },
  { cls := 9, slots := #[.int (-98)], vm := .none },
  { cls := 9, slots := #[.int (-97)], vm := .none },
  { cls := 9, slots := #[.int (-96)], vm := .none },
  { cls := 9, slots := #[.int (-95)], vm := .none },
  { cls := 9, slots := #[.int (-94)], vm := .none },
  { cls := 9, slots := #[.int (-93)], vm := .none },
  { cls := 9, slots := #[.int (-92)], vm := .none },
  { cls := 9, slots := #[.int (-91)], vm := .none },
  { cls := 9, slots := #[.int (-90)], vm := .none },
  { cls := 9, slots := #[.int (-89)], vm := .none },
  { cls := 9, slots := #[.int (-88)], vm := .none },
  { cls := 9, slots := #[.int (-87)], vm := .none },
  { cls := 9, slots := #[.int (-86)], vm := .none },
  { cls := 9, slots := #[.int (-85)], vm := .none },
  { cls := 9, slots := #[.int (-84)], vm := .none },
  { cls := 9, slots := #[.int (-83)], vm := .none },
  { cls := 9, slots := #[.int (-82)], vm := .none },
  { cls := 9, slots := #[.int (-81)], vm := .none },
  { cls := 9, slots := #[.int (-80)], vm := .none },
  { cls := 9, slots := #[.int (-79)], vm := .none },
  { cls := 9, slots := #[.int (-78)], vm := .none },
  { cls := 9, slots := #[.int (-77)], vm := .none },
  { cls := 9, slots := #[.int (-76)], vm := .none },
  { cls := 9, slots := #[.int (-75)], vm := .none },
  { cls := 9, slots := #[.int (-74)], vm := .none },
  { cls := 9, slots := #[.int (-73)], vm := .none },
  { cls := 9, slots := #[.int (-72)], vm := .none },
  { cls := 9, slots := #[.int (-71)], vm := .none },
  { cls := 9, slots := #[.int (-70)], vm := .none },
  { cls := 9, slots := #[.int (-69)], vm := .none },
  { cls := 9, slots := #[.int (-68)], vm := .none },
  { cls := 9, slots := #[.int (-67)], vm := .none },
  { cls := 9, slots := #[.int (-66)], vm := .none },
  { cls := 9, slots := #[.int (-65)], vm := .none },
  { cls := 9, slots := #[.int (-64)], vm := .none },
  { cls := 9, slots := #[.int (-63)], vm := .none },
  { cls := 9, slots := #[.int (-62)], vm := .none },
  { cls := 9, slots := #[.int (-61)], vm := .none },
  { cls := 9, slots := #[.int (-60)], vm := .none },
  { cls := 9, slots := #[.int (-59)], vm := .none },
  { cls := 9, slots := #[.int (-58)], vm := .none },
  { cls := 9, slots := #[.int (-57)], vm := .none },
  { cls := 9, slots := #[.int (-56)], vm := .none },
  { cls := 9, slots := #[.int (-55)], vm := .none },
  { cls := 9, slots := #[.int (-54)], vm := .none },
  { cls := 9, slots := #[.int (-53)], vm := .none },
  { cls := 9, slots := #[.int (-52)], vm := .none },
  { cls := 9, slots := #[.int (-51)], vm := .none },
  { cls := 9, slots := #[.int (-50)], vm := .none },
  { cls := 9, slots := #[.int (-49)], vm := .none },
  { cls := 9, slots := #[.int (-48)], vm := .none },
  { cls := 9, slots := #[.int (-47)], vm := .none },
  { cls := 9, slots := #[.int (-46)], vm := .none },
  { cls := 9, slots := #[.int (-45)], vm := .none },
  { cls := 9, slots := #[.int (-44)], vm := .none },
  { cls := 9, slots := #[.int (-43)], vm := .none },
  { cls := 9, slots := #[.int (-42)], vm := .none },
  { cls := 9, slots := #[.int (-41)], vm := .none },
  { cls := 9, slots := #[.int (-40)], vm := .none },
  { cls := 9, slots := #[.int (-39)], vm := .none },
  { cls := 9, slots := #[.int (-38)], vm := .none },
  { cls := 9, slots := #[.int (-37)], vm := .none },
  { cls := 9, slots := #[.int (-36)], vm := .none },
  { cls := 9, slots := #[.int (-35)], vm := .none },
  { cls := 9, slots := #[.int (-34)], vm := .none },
  { cls := 9, slots := #[.int (-33)], vm := .none },
  { cls := 9, slots := #[.int (-32)], vm := .none },
  { cls := 9, slots := #[.int (-31)], vm := .none },
  { cls := 9, slots := #[.int (-30)], vm := .none },
  { cls := 9, slots := #[.int (-29)], vm := .none },
  { cls := 9, slots := #[.int (-28)], vm := .none },
  { cls := 9, slots := #[.int (-27)], vm := .none },
  { cls := 9, slots := #[.int (-26)], vm := .none },
  { cls := 9, slots := #[.int (-25)], vm := .none },
  { cls := 9, slots := #[.int (-24)], vm := .none },
  { cls := 9, slots := #[.int (-23)], vm := .none },
  { cls := 9, slots := #[.int (-22)], vm := .none },
  { cls := 9, slots := #[.int (-21)], vm := .none },
  { cls := 9, slots := #[.int (-20)], vm := .none },
  { cls := 9, slots := #[.int (-19)], vm := .none },
  { cls := 9, slots := #[.int (-18)], vm := .none },
  { cls := 9, slots := #[.int (-17)], vm := .none },
  { cls := 9, slots := #[.int (-16)], vm := .none },
  { cls := 9, slots := #[.int (-15)], vm := .none },
  { cls := 9, slots := #[.int (-14)], vm := .none },
  { cls := 9, slots := #[.int (-13)], vm := .none },
  { cls := 9, slots := #[.int (-12)], vm := .none },
  { cls := 9, slots := #[.int (-11)], vm := .none },
  { cls := 9, slots := #[.int (-10)], vm := .none },
  { cls := 9, slots := #[.int (-9)], vm := .none },
  { cls := 9, slots := #[.int (-8)], vm := .none },
  { cls := 9, slots := #[.int (-7)], vm := .none },
  { cls := 9, slots := #[.int (-6)], vm := .none },
  { cls := 9, slots := #[.int (-5)], vm := .none },
  { cls := 9, slots := #[.int (-4)], vm := .none },
  { cls := 9, slots := #[.int (-3)], vm := .none },
  { cls := 9, slots := #[.int (-2)], vm := .none },
  { cls := 9, slots := #[.int (-1)], vm := .none },
  { cls := 9, slots := #[.int (0)], vm := .none },
  { cls := 9, slots := #[.int (1)], vm := .none },
  { cls := 9, slots := #[.int (2)], vm := .none },
  { cls := 9, slots := #[.int (3)], vm := .none },
  { cls := 9, slots := #[.int (4)], vm := .none },
  { cls := 9, slots := #[.int (5)], vm := .none },
  { cls := 9, slots := #[.int (6)], vm := .none },
  { cls := 9, slots := #[.int (7)], vm := .none },
  { cls := 9, slots := #[.int (8)], vm := .none },
  { cls := 9, slots := #[.int (9)], vm := .none },
  { cls := 9, slots := #[.int (10)], vm := .none },
  { cls := 9, slots := #[.int (11)], vm := .none },
  { cls := 9, slots := #[.int (12)], vm := .none },
  { cls := 9, slots := #[.int (13)], vm := .none },
  { cls := 9, slots := #[.int (14)], vm := .none },
  { cls := 9, slots := #[.int (15)], vm := .none },
  { cls := 9, slots := #[.int (16)], vm := .none },
  { cls := 9, slots := #[.int (17)], vm := .none },
  { cls := 9, slots := #[.int (18)], vm := .none },
  { cls := 9, slots := #[.int (19)], vm := .none },
  { cls := 9, slots := #[.int (20)], vm := .none },
  { cls := 9, slots := #[.int (21)], vm := .none },
  { cls := 9, slots := #[.int (22)], vm := .none },
  { cls := 9, slots := #[.int (23)], vm := .none },
  { cls := 9, slots := #[.int (24)], vm := .none },
  { cls := 9, slots := #[.int (25)], vm := .none },
  { cls := 9, slots := #[.int (26)], vm := .none },
  { cls := 9, slots := #[.int (27)], vm := .none },
  { cls := 9, slots := #[.int (28)], vm := .none },
  { cls := 9, slots := #[.int (29)], vm := .none },
  { cls := 9, slots := #[.int (30)], vm := .none },
  { cls := 9, slots := #[.int (31)], vm := .none },
  { cls := 9, slots := #[.int (32)], vm := .none },
  { cls := 9, slots := #[.int (33)], vm := .none },
  { cls := 9, slots := #[.int (34)], vm := .none },
  { cls := 9, slots := #[.int (35)], vm := .none },
  { cls := 9, slots := #[.int (36)], vm := .none },
  { cls := 9, slots := #[.int (37)], vm := .none },
  { cls := 9, slots := #[.int (38)], vm := .none },
  { cls := 9, slots := #[.int (39)], vm := .none },
  { cls := 9, slots := #[.int (40)], vm := .none },
  { cls := 9, slots := #[.int (41)], vm := .none },
  { cls := 9, slots := #[.int (42)], vm := .none },
  { cls := 9, slots := #[.int (43)], vm := .none },
  { cls := 9, slots := #[.int (44)], vm := .none },
  { cls := 9, slots := #[.int (45)], vm := .none },
  { cls := 9, slots := #[.int (46)], vm := .none },
  { cls := 9, slots := #[.int (47)], vm := .none },
  { cls := 9, slots := #[.int (48)], vm := .none },
  { cls := 9, slots := #[.int (49)], vm := .none },
  { cls := 9, slots := #[.int (50)], vm := .none },
  { cls := 9, slots := #[.int (51)], vm := .none },
  { cls := 9, slots := #[.int (52)], vm := .none },
  { cls := 9, slots := #[.int (53)], vm := .none },
  { cls := 9, slots := #[.int (54)], vm := .none },
  { cls := 9, slots := #[.int (55)], vm := .none },
  { cls := 9, slots := #[.int (56)], vm := .none },
  { cls := 9, slots := #[.int (57)], vm := .none },
  { cls := 9, slots := #[.int (58)], vm := .none },
  { cls := 9, slots := #[.int (59)], vm := .none },
  { cls := 9, slots := #[.int (60)], vm := .none },
  { cls := 9, slots := #[.int (61)], vm := .none },
  { cls := 9, slots := #[.int (62)], vm := .none },
  { cls := 9, slots := #[.int (63)], vm := .none },
  { cls := 9, slots := #[.int (64)], vm := .none },
  { cls := 9, slots := #[.int (65)], vm := .none },
  { cls := 9, slots := #[.int (66)], vm := .none },
  { cls := 9, slots := #[.int (67)], vm := .none },
  { cls := 9, slots := #[.int (68)], vm := .none },
  { cls := 9, slots := #[.int (69)], vm := .none },
  { cls := 9, slots := #[.int (70)], vm := .none },
  { cls := 9, slots := #[.int (71)], vm := .none },
  { cls := 9, slots := #[.int (72)], vm := .none },
  { cls := 9, slots := #[.int (73)], vm := .none },
  { cls := 9, slots := #[.int (74)], vm := .none },
  { cls := 9, slots := #[.int (75)], vm := .none },
  { cls := 9, slots := #[.int (76)], vm := .none },
  { cls := 9, slots := #[.int (77)], vm := .none },
  { cls := 9, slots := #[.int (78)], vm := .none },
  { cls := 9, slots := #[.int (79)], vm := .none },
  { cls := 9, slots := #[.int (80)], vm := .none },
  { cls := 9, slots := #[.int (81)], vm := .none },
  { cls := 9, slots := #[.int (82)], vm := .none },
  { cls := 9, slots := #[.int (83)], vm := .none },
  { cls := 9, slots := #[.int (84)], vm := .none },
  { cls := 9, slots := #[.int (85)], vm := .none },
  { cls := 9, slots := #[.int (86)], vm := .none },
  { cls := 9, slots := #[.int (87)], vm := .none },
  { cls := 9, slots := #[.int (88)], vm := .none },
  { cls := 9, slots := #[.int (89)], vm := .none },
  { cls := 9, slots := #[.int (90)], vm := .none },
  { cls := 9, slots := #[.int (91)], vm := .none },
  { cls := 9, slots := #[.int (92)], vm := .none },
  { cls := 9, slots := #[.int (93)], vm := .none },
  { cls := 9, slots := #[.int (94)], vm := .none },
  { cls := 9, slots := #[.int (95)], vm := .none },
  { cls := 9, slots := #[.int (96)], vm := .none },
  { cls := 9, slots := #[.int (97)], vm := .none },
  { cls := 9, slots := #[.int (98)], vm := .none },
  { cls := 9, slots := #[.int (99)], vm := .none },
  { cls := 9, slots := #[.int (100)], vm := .none },
  { cls := 9, slots := #[.int (101)], vm := .none },
  { cls := 9, slots := #[.int (102)], vm := .none },
  { cls := 9, slots := #[.int (103)], vm := .none },
  { cls := 9, slots := #[.int (104)], vm := .none },
  { cls := 9, slots := #[.int (105)], vm := .none },
  { cls := 9, slots := #[.int (106)], vm := .none },
  { cls := 9, slots := #[.int (107)], vm := .none },
  { cls := 9, slots := #[.int (108)], vm := .none },
  { cls := 9, slots := #[.int (109)], vm := .none },
  { cls := 9, slots := #[.int (110)], vm := .none },
  { cls := 9, slots := #[.int (111)], vm := .none },
  { cls := 9, slots := #[.int (112)], vm := .none },
  { cls := 9, slots := #[.int (113)], vm := .none },
  { cls := 9, slots := #[.int (114)], vm := .none },
  { cls := 9, slots := #[.int (115)], vm := .none },
  { cls := 9, slots := #[.int (116)], vm := .none },
  { cls := 9, slots := #[.int (117)], vm := .none },
  { cls := 9, slots := #[.int (118)], vm := .none },
  { cls := 9, slots := #[.int (119)], vm := .none },
  { cls := 9, slots := #[.int (120)], vm := .none },
  { cls := 9, slots := #[.int (121)], vm := .none },
  { cls := 9, slots := #[.int (122)], vm := .none },
  { cls := 9, slots := #[.int (123)], vm := .none },
  { cls := 9, slots := #[.int (124)], vm := .none },
  { cls := 9, slots := #[.int (125)], vm := .none },
  { cls := 9, slots := #[.int (126)], vm := .none },
  { cls := 9, slots := #[.int (127)], vm := .none }]
def classes : Array Class := #[k0, k1, k2, k3, k4, k5, k6, k7, k8, k9, k10, k11, k12, k13, k14, k15, k16]
def interned : List (Array UInt16 × Addr) := []
def slotsUsed : Nat := 517
def theMethod : MethodId := ⟨1, 1⟩
def args0 : Array Value := #[.int 1, .int 5, .int 6, .int 7, .int 8]
def aboutOver (below : List Frame) : State where
  vm := { classes := classes, interned := interned.toArray }
  heap := heap
  slotsUsed := slotsUsed
  threads := #[{ frames := .invoking theMethod args0 :: below }]
def below0 : List Frame := [.native { method := ⟨0, 0⟩, args := #[] }]
def about1 : State := aboutOver below0
def p0 : Program := .bare "" "" ""
def e0 : Env := launch0.env 0 0 0
theorem w_frames : about1.frames = Frame.invoking theMethod args0 :: below0 := rfl
set_option maxRecDepth 65536 in
theorem w_args : argsFit about1.vm theMethod args0 = true := by decide +kernel
set_option maxRecDepth 65536 in
theorem w_heap : heapFits about1 = true := by decide +kernel
set_option maxRecDepth 65536 in
theorem w_runnable : about1.curStatus? = some .runnable := by decide +kernel
set_option maxRecDepth 65536 in
theorem w_alone : about1.alone = true := by decide +kernel
set_option maxRecDepth 65536 in
theorem w_named : about1.methodNamed? x = some theMethod := by decide +kernel
set_option maxRecDepth 65536 in
theorem w_hears : about1.hears theMethod below0 = true := by decide +kernel
set_option maxRecDepth 65536 in
theorem w_ripe : about1.ripe theMethod args0 below0 = true := by decide +kernel
theorem w_running : about1.status = .running := rfl
set_option maxRecDepth 65536 in
theorem w_room : about1.hasRoom e0.platform room_1 = true :=
  launch0.hasRoom_least _ room_1 (by decide +kernel) (by decide +kernel) (by decide +kernel) (by decide +kernel) (by decide +kernel) (by decide +kernel)
theorem allAtoms_all (ts : List Jvm.Cond) (a : Array Jvm.Value) (st : Jvm.State) : (allAtoms ts).before a st = ts.all (fun c => c.before a st) := by
  induction ts with
  | nil => rfl
  | cons c t ih =>
    show (Jvm.Cond.and c (allAtoms t)).before a st = _
    rw [Jvm.Cond.before_and, ih, List.all_cons]
def words1 : List Jvm.Cond := Jvm.Cond.code x code maxLocals ret :: tables_1
/-- a 'code' word, met by the world's own term for the bytes: nothing is compared byte by byte -/
theorem code_word {y : MethodName} {bytes : ByteArray} {mx : Nat} {rt : Option FieldType} {a : Array Value} {s : State} {m : MethodId} {meth : Method} {c : Code} (h1 : s.methodNamed? y = some m) (h2 : s.vm.method? m = some meth) (h3 : meth.code = some c) (h4 : c.code = bytes)
    (h5 : (c.maxLocals == mx && c.exceptionTable.isEmpty && decide (c.maxStack ≤ mostOperands) && decide (meth.sig.returnType = rt) && !meth.locks && decide (parseMethodDescriptor y.desc = some meth.sig)) = true) : (Jvm.Cond.code y bytes mx rt).before a s = true := by
  simp only [Bool.and_eq_true, beq_iff_eq, Bool.not_eq_true', decide_eq_true_eq] at h5
  obtain ⟨⟨⟨⟨⟨g1, g2⟩, g3⟩, g4⟩, g5⟩, g6⟩ := h5
  simp [Cond.before, Cond.holds, Cond.value, h1, h2, h3, h4, g1, g2, g3, g4, g5, g6]
def isCode : Jvm.Cond → Bool
  | .code _ _ _ _ => true
  | _ => false
theorem all_split {L : List Jvm.Cond} {P : Jvm.Cond → Bool} (h1 : L.all (fun c => isCode c || P c) = true) (h2 : ∀ c ∈ L.filter isCode, P c = true) : L.all P = true := by
  refine List.all_eq_true.mpr fun c hc => ?_
  have h := List.all_eq_true.mp h1 c hc
  rcases Bool.eq_false_or_eq_true (isCode c) with hi | hi
  · exact h2 c (List.mem_filter.mpr ⟨hc, hi⟩)
  · simpa [hi] using h
set_option maxRecDepth 65536 in
theorem w_c0 : (Jvm.Cond.code x code maxLocals ret).before args0 about1 = true := code_word (m := ⟨1, 1⟩) (meth := k1m1) (c := k1c1) (by decide +kernel) rfl rfl rfl (by decide +kernel)
set_option maxRecDepth 65536 in
theorem w_c1 : (Jvm.Cond.code ({ cls := "com/example/lazytail/lazytail/media/Rung", name := "<init>", desc := "(II)V" } : Jvm.MethodName) prog_23_method_1_code (3 : Nat) (Option.none : Option Jvm.ClassFile.FieldType)).before args0 about1 = true := code_word (m := ⟨3, 0⟩) (meth := k3m0) (c := k3c0) (by decide +kernel) rfl rfl rfl (by decide +kernel)
set_option maxRecDepth 65536 in
theorem w_c2 : (Jvm.Cond.code ({ cls := "java/lang/Record", name := "<init>", desc := "()V" } : Jvm.MethodName) jdk_30_method_1_code (1 : Nat) (Option.none : Option Jvm.ClassFile.FieldType)).before args0 about1 = true := code_word (m := ⟨2, 0⟩) (meth := k2m0) (c := k2c0) (by decide +kernel) rfl rfl rfl (by decide +kernel)
set_option maxRecDepth 65536 in
theorem w_c3 : (Jvm.Cond.code ({ cls := "java/lang/Object", name := "<init>", desc := "()V" } : Jvm.MethodName) object_method_1_code (1 : Nat) (Option.none : Option Jvm.ClassFile.FieldType)).before args0 about1 = true := code_word (m := ⟨0, 0⟩) (meth := k0m0) (c := k0c0) (by decide +kernel) rfl rfl rfl (by decide +kernel)
set_option maxRecDepth 65536 in
theorem w_c4 : (Jvm.Cond.code ({ cls := "com/example/lazytail/lazytail/media/Rung", name := "equals", desc := "(Ljava/lang/Object;)Z" } : Jvm.MethodName) prog_23_method_2_code (3 : Nat) (Option.some Jvm.ClassFile.FieldType.boolean)).before args0 about1 = true := code_word (m := ⟨3, 1⟩) (meth := k3m1) (c := k3c1) (by decide +kernel) rfl rfl rfl (by decide +kernel)
set_option maxRecDepth 65536 in
theorem w_c5 : (Jvm.Cond.code ({ cls := "java/lang/Integer", name := "valueOf", desc := "(I)Ljava/lang/Integer;" } : Jvm.MethodName) jdk_33_method_22_code (1 : Nat) (Option.some (Jvm.ClassFile.FieldType.object "java/lang/Integer"))).before args0 about1 = true := code_word (m := ⟨9, 0⟩) (meth := k9m0) (c := k9c0) (by decide +kernel) rfl rfl rfl (by decide +kernel)
set_option maxRecDepth 65536 in
theorem w_c6 : (Jvm.Cond.code ({ cls := "java/lang/Integer", name := "<init>", desc := "(I)V" } : Jvm.MethodName) jdk_33_method_23_code (2 : Nat) (Option.none : Option Jvm.ClassFile.FieldType)).before args0 about1 = true := code_word (m := ⟨9, 1⟩) (meth := k9m1) (c := k9c1) (by decide +kernel) rfl rfl rfl (by decide +kernel)
set_option maxRecDepth 65536 in
theorem w_c7 : (Jvm.Cond.code ({ cls := "java/lang/Number", name := "<init>", desc := "()V" } : Jvm.MethodName) jdk_18_method_1_code (1 : Nat) (Option.none : Option Jvm.ClassFile.FieldType)).before args0 about1 = true := code_word (m := ⟨5, 0⟩) (meth := k5m0) (c := k5c0) (by decide +kernel) rfl rfl rfl (by decide +kernel)
def codes1 : List Jvm.Cond := [Jvm.Cond.code x code maxLocals ret, Jvm.Cond.code ({ cls := "com/example/lazytail/lazytail/media/Rung", name := "<init>", desc := "(II)V" } : Jvm.MethodName) prog_23_method_1_code (3 : Nat) (Option.none : Option Jvm.ClassFile.FieldType), Jvm.Cond.code ({ cls := "java/lang/Record", name := "<init>", desc := "()V" } : Jvm.MethodName) jdk_30_method_1_code (1 : Nat) (Option.none : Option Jvm.ClassFile.FieldType), Jvm.Cond.code ({ cls := "java/lang/Object", name := "<init>", desc := "()V" } : Jvm.MethodName) object_method_1_code (1 : Nat) (Option.none : Option Jvm.ClassFile.FieldType), Jvm.Cond.code ({ cls := "com/example/lazytail/lazytail/media/Rung", name := "equals", desc := "(Ljava/lang/Object;)Z" } : Jvm.MethodName) prog_23_method_2_code (3 : Nat) (Option.some Jvm.ClassFile.FieldType.boolean), Jvm.Cond.code ({ cls := "java/lang/Integer", name := "valueOf", desc := "(I)Ljava/lang/Integer;" } : Jvm.MethodName) jdk_33_method_22_code (1 : Nat) (Option.some (Jvm.ClassFile.FieldType.object "java/lang/Integer")), Jvm.Cond.code ({ cls := "java/lang/Integer", name := "<init>", desc := "(I)V" } : Jvm.MethodName) jdk_33_method_23_code (2 : Nat) (Option.none : Option Jvm.ClassFile.FieldType), Jvm.Cond.code ({ cls := "java/lang/Number", name := "<init>", desc := "()V" } : Jvm.MethodName) jdk_18_method_1_code (1 : Nat) (Option.none : Option Jvm.ClassFile.FieldType)]
set_option maxRecDepth 65536 in
theorem codes_eq : words1.filter isCode = codes1 := rfl
theorem w_codes : ∀ c ∈ words1.filter isCode, c.before args0 about1 = true := by
  rw [codes_eq]
  intro c hc
  simp only [codes1, List.mem_cons, List.not_mem_nil, or_false] at hc
  rcases hc with rfl | rfl | rfl | rfl | rfl | rfl | rfl | rfl
  · exact w_c0
  · exact w_c1
  · exact w_c2
  · exact w_c3
  · exact w_c4
  · exact w_c5
  · exact w_c6
  · exact w_c7
set_option maxRecDepth 65536 in
theorem w_t1 : (words1.take 24).all (fun c => isCode c || c.before args0 about1) = true := by decide +kernel
set_option maxRecDepth 65536 in
theorem w_t2 : ((words1.drop 24).take 24).all (fun c => isCode c || c.before args0 about1) = true := by decide +kernel
set_option maxRecDepth 65536 in
theorem w_t3 : ((words1.drop 24).drop 24).all (fun c => isCode c || c.before args0 about1) = true := by decide +kernel
theorem w_tables : (allAtoms (Jvm.Cond.code x code maxLocals ret :: tables_1)).before args0 about1 = true := by
  rw [allAtoms_all]
  show words1.all (fun c => c.before args0 about1) = true
  refine all_split ?_ w_codes
  rw [← List.take_append_drop 24 words1, List.all_append, w_t1, ← List.take_append_drop 24 (words1.drop 24), List.all_append, w_t2, w_t3]
  rfl
set_option maxRecDepth 65536 in
theorem w_rest : rest_1_c.before args0 about1 = true := by decide +kernel
set_option maxRecDepth 65536 in
theorem w_case : (Jvm.Cond.and given_1 narrow_1).before args0 about1 = true := by decide +kernel
theorem w_applies : (headSpec (Jvm.Cond.code x code maxLocals ret :: tables_1) room_1).applies x e0.platform about1 = true :=
  (Spec.applies_iff w_frames).mpr ⟨w_running, w_runnable, w_alone, w_named, w_hears, w_ripe, w_room, w_tables⟩
theorem atStart : AtStart classFile x code maxLocals ret World_1 tables_1 room_1 Calls_1 rest_1 Pre_1 launch0 p0 e0 about1 theMethod args0 below0 :=
  ⟨lists_1, trivial, launch0.admits_env _ _ _, launch0.least_env, fairChoices_fair.cas, fairChoices_fair.clock, w_frames, w_args, w_heap, w_applies, trivial, w_rest, w_case⟩
end start1
theorem witness_1 : WitnessClaimed_1 := ⟨start1.p0, start1.e0, start1.about1, start1.theMethod, start1.args0, start1.below0, start1.atStart⟩
end Jvm.Pilot.@@N@@
