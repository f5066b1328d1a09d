import JvmDerived
import JvmDerived.Pilot.@@N@@Statement
import JvmDerived.Pilot.@@N@@Code
set_option linter.unusedVariables false
set_option linter.unusedSimpArgs false
namespace Jvm.Pilot.@@N@@
open Jvm Jvm.ClassFile Sem Op Lib Jvm.Free Jvm.Stand Jvm.LawKit Jvm.RoadKit Bundle Jvm.Pilot.@@N@@.Jvm.D
section Own
/-! comparisons, said of the integers -/
theorem own_ieq {x y : Int32} (h : x = y) : x.toInt = y.toInt := by rw [h]
theorem own_ine {x y : Int32} (h : ¬ (x = y)) : x.toInt ≠ y.toInt := fun q => h (Int32.toInt_inj.mp q)
theorem own_ilt {x y : Int32} (h : x < y) : x.toInt < y.toInt := Int32.lt_iff_toInt_lt.mp h
theorem own_inl {x y : Int32} (h : ¬ (x < y)) : y.toInt ≤ x.toInt := Int.not_lt.mp fun q => h (Int32.lt_iff_toInt_lt.mpr q)
theorem own_ieq_of {x y : Int32} (h : x.toInt = y.toInt) : x = y := Int32.toInt_inj.mp h
theorem own_ine_of {x y : Int32} (h : x.toInt ≠ y.toInt) : ¬ (x = y) := fun q => h (by rw [q])
theorem own_ilt_of {x y : Int32} (h : x.toInt < y.toInt) : x < y := Int32.lt_iff_toInt_lt.mpr h
theorem own_inl_of {x y : Int32} (h : y.toInt ≤ x.toInt) : ¬ (x < y) := fun q => Int.not_lt.mpr h (Int32.lt_iff_toInt_lt.mp q)
theorem own_leq {x y : Int64} (h : x = y) : x.toInt = y.toInt := by rw [h]
theorem own_lne {x y : Int64} (h : ¬ (x = y)) : x.toInt ≠ y.toInt := fun q => h (Int64.toInt_inj.mp q)
theorem own_llt {x y : Int64} (h : x < y) : x.toInt < y.toInt := Int64.lt_iff_toInt_lt.mp h
theorem own_lnl {x y : Int64} (h : ¬ (x < y)) : y.toInt ≤ x.toInt := Int.not_lt.mp fun q => h (Int64.lt_iff_toInt_lt.mpr q)
theorem own_leq_of {x y : Int64} (h : x.toInt = y.toInt) : x = y := Int64.toInt_inj.mp h
theorem own_lne_of {x y : Int64} (h : x.toInt ≠ y.toInt) : ¬ (x = y) := fun q => h (by rw [q])
theorem own_llt_of {x y : Int64} (h : x.toInt < y.toInt) : x < y := Int64.lt_iff_toInt_lt.mpr h
theorem own_lnl_of {x y : Int64} (h : y.toInt ≤ x.toInt) : ¬ (x < y) := fun q => Int.not_lt.mpr h (Int64.lt_iff_toInt_lt.mp q)
variable {p : Program} {l : Launch} {e : Env} {R : Room} {s : State} {m : MethodId} {args : Array Value} {below : List Frame} {meth : Method} {c : Code} {T : State} {locs : List Loc} {cells slots : Nat} {Z : State} {a0 : Array Value} {h : Heap} {Q : Option Value → Heap → List Loc → Prop} {kc ks : Nat} {S S' : State}
/-- from S the invocation comes back; Q holds of what it returned, of the heap and of the places written -/
def own_Ends (p : Program) (e : Env) (below : List Frame) (s : State) (Q : Option Value → Heap → List Loc → Prop) (kc ks : Nat) (S : State) : Prop :=
  ∃ s₂ o, Steps p.tables e below S s₂ ∧ s₂.status = .running ∧ Ended s₂ below o ∧ ∃ v L, o = .returned v ∧ Q v s₂.heap L ∧ FrameEnd s o s₂ L kc ks
theorem own_up (st : ∀ t, Steps p.tables e below S' t → Steps p.tables e below S t) (k : own_Ends p e below s Q kc ks S') : own_Ends p e below s Q kc ks S := by
  obtain ⟨t, o, h1, h2⟩ := k
  exact ⟨t, o, st t h1, h2⟩
theorem own_met {y : MethodName} {code : ByteArray} {maxL : Nat} {ret : Option FieldType} {rm : Room} {as' : Array Value} {ws : List Jvm.Cond} {L0 : Array Slot}
    (hpl : plainFor y = true) (hef : ∀ m, entryFrame m as' maxL = mkF m 0 L0 [])
    (body : ∀ (p : Program) (e : Env) (s : State) (m : MethodId) (below : List Frame) (meth : Method) (c : Code) (T : State), p.tables.exec = Jvm.exec → c.code = code → c.maxLocals = maxL → s.vm.findClass y.cls = some m.cls → meth.name = y.name → meth.sig.returnType = ret → meth.locks = false → Z.Warmed39 s.vm → T.heap = h → Stand p l e rm s m as' below meth c T [] 0 0 → own_Ends p e below s Q rm.cells rm.slots (T.setTop (mkF m 0 L0 []))) :
    MetFree l y (head1 (Jvm.Cond.code y code maxL ret :: ws) rm) (fun a U => a = as' ∧ Z.Warmed39 U.vm ∧ U.heap = h) (fun _ _ _ _ _ => True) (fun _ U o U' => ∃ v L, o = .returned v ∧ Q v U'.heap L ∧ FrameEnd U o U' L rm.cells rm.slots) := by
  refine MetFree.of_bodySF hpl hisR ?_
  intro p e s m args below meth c s₁ Bd hml hP hK
  obtain ⟨rfl, hZ, hh⟩ := hP
  rw [hef m]
  exact body p e s m below meth c s₁ Bd.exec Bd.bytes hml (findClass_of_methodNamed Bd.named) (name_of_methodNamed Bd.named Bd.method).1 Bd.returns (BodyLoose.notSynchronized Bd) hZ (by rw [← hh, Bd.state]; rfl) (Stand.of_body Bd)
/-! returns -/
theorem own_iret (X : Stand p l e R s m args below meth c T locs cells slots) (hx : p.tables.exec = Jvm.exec) {pc : Nat} {Ls : Array Slot} {z : Int32} {rest : List Value} (hret : meth.sig.returnType = some .int) (hd : decode c.code pc = .ok (.ireturn, 1)) {fs : List Frame}
    (hl : ∀ (f : JFrame) (acts : List Action), f.method = m → f.locked = none → f.entered = [] → (doReturn e (T.setTop f) acts (some (.int z))).1 = T.setFrames fs) : Steps p.tables e below (T.setTop (mkF m pc Ls (.int z :: rest))) (T.setFrames fs) :=
  retOut X hx hret rfl (Or.inl ⟨rfl, Or.inl rfl, _, rfl⟩) hd hl
theorem own_retI (X : Stand p l e R s m args below meth c T locs cells slots) (hx : p.tables.exec = Jvm.exec) (hlk : meth.locks = false) (hret : meth.sig.returnType = some .int) {pc : Nat} {Ls : Array Slot} {z : Int32} {rest : List Value} (hd : decode c.code pc = .ok (.ireturn, 1)) (hc : cells ≤ kc) (hs : slots ≤ ks) (hq : Q (some (.int z)) T.heap locs) :
    own_Ends p e below s Q kc ks (T.setTop (mkF m pc Ls (.int z :: rest))) := by
  obtain ⟨fs, hr, hrun, hended, hW, hsame⟩ := X.leave (v := some (.int z)) (fun q => by rw [hret] at q; cases q) hlk
  exact ⟨_, _, own_iret X hx hret hd hr, hrun, hended, _, _, rfl, hq, ⟨_, rfl⟩, hW, hsame.mono hc hs⟩
theorem own_retN (X : Stand p l e R s m args below meth c T locs cells slots) (hx : p.tables.exec = Jvm.exec) (hlk : meth.locks = false) {t : FieldType} (hret : meth.sig.returnType = some t) (ht : t = .boolean ∨ t = .byte ∨ t = .char ∨ t = .short) {pc : Nat} {Ls : Array Slot} {z z' : Int32} {rest : List Value} (hn : nar t z = z') (hd : decode c.code pc = .ok (.ireturn, 1)) (hc : cells ≤ kc) (hs : slots ≤ ks) (hq : Q (some (.int z')) T.heap locs) :
    own_Ends p e below s Q kc ks (T.setTop (mkF m pc Ls (.int z :: rest))) := by
  subst hn
  obtain ⟨fs, hr, hrun, hended, hW, hsame⟩ := X.leave (v := some (.int (nar t z))) (fun q => by rw [hret] at q; cases q) hlk
  exact ⟨_, _, retN X hx hret ht hd hr, hrun, hended, _, _, rfl, hq, ⟨_, rfl⟩, hW, hsame.mono hc hs⟩
theorem own_retL (X : Stand p l e R s m args below meth c T locs cells slots) (hx : p.tables.exec = Jvm.exec) (hlk : meth.locks = false) (hret : meth.sig.returnType = some .long) {pc : Nat} {Ls : Array Slot} {z : Int64} {rest : List Value} (hd : decode c.code pc = .ok (.lreturn, 1)) (hc : cells ≤ kc) (hs : slots ≤ ks) (hq : Q (some (.long z)) T.heap locs) :
    own_Ends p e below s Q kc ks (T.setTop (mkF m pc Ls (.long z :: rest))) := by
  obtain ⟨fs, hr, hrun, hended, hW, hsame⟩ := X.leave (v := some (.long z)) (fun q => by rw [hret] at q; cases q) hlk
  exact ⟨_, _, retOut X hx hret rfl (Or.inr (Or.inl ⟨rfl, rfl, _, rfl⟩)) hd hr, hrun, hended, _, _, rfl, hq, ⟨_, rfl⟩, hW, hsame.mono hc hs⟩
theorem own_retA (X : Stand p l e R s m args below meth c T locs cells slots) (hx : p.tables.exec = Jvm.exec) (hlk : meth.locks = false) {t : FieldType} (hret : meth.sig.returnType = some t) (ht : t.isReference = true) {pc : Nat} {Ls : Array Slot} {a : Addr} {rest : List Value} (hn : narrow t (.ref a) = .ref a) (hd : decode c.code pc = .ok (.areturn, 1)) (hc : cells ≤ kc) (hs : slots ≤ ks) (hq : Q (some (.ref a)) T.heap locs) :
    own_Ends p e below s Q kc ks (T.setTop (mkF m pc Ls (.ref a :: rest))) := by
  obtain ⟨fs, hr, hrun, hended, hW, hsame⟩ := X.leave (v := some (.ref a)) (fun q => by rw [hret] at q; cases q) hlk
  exact ⟨_, _, retOut X hx hret hn (Or.inr (Or.inr (Or.inr (Or.inr ⟨rfl, ht, rfl⟩)))) hd hr, hrun, hended, _, _, rfl, hq, ⟨_, rfl⟩, hW, hsame.mono hc hs⟩
theorem own_retV (X : Stand p l e R s m args below meth c T locs cells slots) (hx : p.tables.exec = Jvm.exec) (hlk : meth.locks = false) (hret : meth.sig.returnType = none) {pc : Nat} {Ls : Array Slot} (hd : decode c.code pc = .ok (.return_, 1)) (hc : cells ≤ kc) (hs : slots ≤ ks) (hq : Q none T.heap locs) :
    own_Ends p e below s Q kc ks (T.setTop (mkF m pc Ls [])) := by
  obtain ⟨fs, hr, hrun, hended, hW, hsame⟩ := X.leave (v := none) (fun _ => rfl) hlk
  exact ⟨_, _, X.returnOut hx hret hd hr, hrun, hended, _, _, rfl, hq, ⟨_, rfl⟩, hW, hsame.mono hc hs⟩
/-! calls -/
theorem own_callS (X : Stand p l e R s m args below meth c T locs cells slots) (hx : p.tables.exec = Jvm.exec) (hZ : Z.Warmed39 s.vm) {own : String} {index : Nat} {y : MethodName} {bytes : ByteArray} {maxL : Nat} {ret : Option FieldType} {rm : Room} {as' : Array Value} {Qc : Option Value → Heap → List Loc → Prop}
    (hown : s.vm.findClass own = some m.cls) (w1 : (Jvm.Cond.methodLink own index y).before a0 Z = true) (w2 : (Jvm.Cond.static y).before a0 Z = true) (w3 : (Jvm.Cond.initialized y.cls).before a0 Z = true) (w4 : (Jvm.Cond.code y bytes maxL ret).before a0 Z = true)
    (hy : y.cls ≠ "java/lang/invoke/MethodHandle" ∧ y.cls ≠ "java/lang/invoke/VarHandle") (eT : T.heap = h)
    (hM : MetFree l y (head1 [Jvm.Cond.code y bytes maxL ret] rm) (fun a U => a = as' ∧ Z.Warmed39 U.vm ∧ U.heap = h) (fun _ _ _ _ _ => True) (fun _ U o U' => ∃ v L, o = .returned v ∧ Qc v U'.heap L ∧ FrameEnd U o U' L rm.cells rm.slots))
    (W : Nat) {g : JFrame} (argsL rest : List Value) (hdg : decode c.code g.pc = .ok (.invokestatic index, 3)) (hlen : ∀ sig, parseMethodDescriptor y.desc = some sig → argsL.length = sig.parameters.length)
    (hf : rm.frames + 1 ≤ R.frames) (hl : W + (maxL + 11) + rm.locals ≤ R.locals) (hc : cells + rm.cells ≤ R.cells) (hs : slots + rm.slots ≤ R.slots)
    (hg : g.method = m) (hsize : g.locals.size = c.maxLocals) (hstack : g.stack = argsL.reverse ++ rest) (hW : 2 * g.monitorRoom + (rest.map fun v => v.category).sum ≤ W) (has : argsL.toArray = as')
    (k : ∀ T' L v, Stand p l e R s m args below meth c T' (locs ++ L) (cells + rm.cells) (slots + rm.slots) → Qc v T'.heap L → own_Ends p e below s Q kc ks (T'.setTop { g with pc := g.pc + 3, stack := v.toList ++ rest })) :
    own_Ends p e below s Q kc ks (T.setTop g) := by
  subst has
  obtain ⟨v, _, ⟨T', L', c', n'⟩, -, X', ⟨L, hQ, l1, y1, z1⟩, st⟩ := Jvm.LawKit.callS X hx hown (mvT hZ w1) (mvT hZ w2) (mvT hZ w3) (mvT hZ w4) hy (backOf (W := W) hM hZ w4 w3 hf hl) hg hsize hlen hstack hW hdg (fun _ _ => ⟨rfl, eT, hc, hs⟩)
  dsimp only [Pt.U, Pt.locs, Pt.cells, Pt.slots] at X' l1 y1 z1 st hQ
  subst l1 y1 z1
  exact own_up st (k T' L v X' hQ)
theorem own_callI (X : Stand p l e R s m args below meth c T locs cells slots) (hx : p.tables.exec = Jvm.exec) (hZ : Z.Warmed39 s.vm) {own : String} {index : Nat} {y : MethodName} {bytes : ByteArray} {maxL : Nat} {rm : Room} {as' : Array Value} {Qc : Option Value → Heap → List Loc → Prop}
    (hy1 : y.name = "<init>") (hown : s.vm.findClass own = some m.cls) (w1 : (Jvm.Cond.methodLink own index y).before a0 Z = true) (w2 : (Jvm.Cond.instanceMethod y).before a0 Z = true) (w3 : (Jvm.Cond.initialized y.cls).before a0 Z = true) (w4 : (Jvm.Cond.code y bytes maxL none).before a0 Z = true)
    (hy : y.cls ≠ "java/lang/invoke/MethodHandle" ∧ y.cls ≠ "java/lang/invoke/VarHandle") (eT : T.heap = h)
    (hM : MetFree l y (head1 [Jvm.Cond.code y bytes maxL none] rm) (fun a U => a = as' ∧ Z.Warmed39 U.vm ∧ U.heap = h) (fun _ _ _ _ _ => True) (fun _ U o U' => ∃ v L, o = .returned v ∧ Qc v U'.heap L ∧ FrameEnd U o U' L rm.cells rm.slots))
    (W : Nat) {g : JFrame} (a : Addr) (argsL rest : List Value) (hdg : decode c.code g.pc = .ok (.invokespecial index, 3)) (hlen : ∀ sig, parseMethodDescriptor y.desc = some sig → argsL.length = sig.parameters.length)
    (hf : rm.frames + 1 ≤ R.frames) (hl : W + (maxL + 11) + rm.locals ≤ R.locals) (hc : cells + rm.cells ≤ R.cells) (hs : slots + rm.slots ≤ R.slots)
    (hg : g.method = m) (hsize : g.locals.size = c.maxLocals) (hstack : g.stack = argsL.reverse ++ .ref a :: rest) (hW : 2 * g.monitorRoom + (rest.map fun v => v.category).sum ≤ W) (has : (.ref a :: argsL).toArray = as')
    (k : ∀ T' L v, Stand p l e R s m args below meth c T' (locs ++ L) (cells + rm.cells) (slots + rm.slots) → Qc v T'.heap L → own_Ends p e below s Q kc ks (T'.setTop { g with pc := g.pc + 3, stack := v.toList ++ rest })) :
    own_Ends p e below s Q kc ks (T.setTop g) := by
  subst has
  obtain ⟨v, _, ⟨T', L', c', n'⟩, -, X', ⟨L, hQ, l1, y1, z1⟩, st⟩ := X.specialBack hx hy1 hown (mvT hZ w1) (mvT hZ w2) (mvT hZ w4) hy (backOf (W := W) hM hZ w4 w3 hf hl) hg hsize (Steps.refl _) hlen hstack hW hdg (fun _ _ => ⟨rfl, eT, hc, hs⟩)
  dsimp only [Pt.U, Pt.locs, Pt.cells, Pt.slots] at X' l1 y1 z1 st hQ
  subst l1 y1 z1
  exact own_up (fun t q => st.trans q) (k T' L v X' hQ)
theorem own_callV (X : Stand p l e R s m args below meth c T locs cells slots) (hx : p.tables.exec = Jvm.exec) (hZ : Z.Warmed39 s.vm) {own C : String} {index : Nat} {y : MethodName} {bytes : ByteArray} {maxL : Nat} {ret : Option FieldType} {rm : Room} {as' : Array Value} {Qc : Option Value → Heap → List Loc → Prop}
    (hown : s.vm.findClass own = some m.cls) (w1 : (Jvm.Cond.methodLink own index y).before a0 Z = true) (w2 : (Jvm.Cond.declares y).before a0 Z = true) (w5 : (Jvm.Cond.selects C y y).before a0 Z = true) (w6 : (Jvm.Cond.instanceMethod y).before a0 Z = true) (w3 : (Jvm.Cond.initialized y.cls).before a0 Z = true) (w4 : (Jvm.Cond.code y bytes maxL ret).before a0 Z = true)
    (hy : y.cls ≠ "java/lang/invoke/MethodHandle" ∧ y.cls ≠ "java/lang/invoke/VarHandle") (eT : T.heap = h)
    (hM : MetFree l y (head1 [Jvm.Cond.code y bytes maxL ret] rm) (fun a U => a = as' ∧ Z.Warmed39 U.vm ∧ U.heap = h) (fun _ _ _ _ _ => True) (fun _ U o U' => ∃ v L, o = .returned v ∧ Qc v U'.heap L ∧ FrameEnd U o U' L rm.cells rm.slots))
    (W : Nat) {g : JFrame} {a : Addr} (E : Exa Z h a C) (argsL rest : List Value) (hdg : decode c.code g.pc = .ok (.invokevirtual index, 3)) (hlen : ∀ sig, parseMethodDescriptor y.desc = some sig → argsL.length = sig.parameters.length)
    (hf : rm.frames + 1 ≤ R.frames) (hl : W + (maxL + 11) + rm.locals ≤ R.locals) (hc : cells + rm.cells ≤ R.cells) (hs : slots + rm.slots ≤ R.slots)
    (hg : g.method = m) (hsize : g.locals.size = c.maxLocals) (hstack : g.stack = argsL.reverse ++ .ref a :: rest) (hW : 2 * g.monitorRoom + (rest.map fun v => v.category).sum ≤ W) (has : (.ref a :: argsL).toArray = as')
    (k : ∀ T' L v, Stand p l e R s m args below meth c T' (locs ++ L) (cells + rm.cells) (slots + rm.slots) → Qc v T'.heap L → own_Ends p e below s Q kc ks (T'.setTop { g with pc := g.pc + 3, stack := v.toList ++ rest })) :
    own_Ends p e below s Q kc ks (T.setTop g) := by
  subst has
  obtain ⟨cq, kq, qa, qb, qc⟩ := isOf hZ eT E
  obtain ⟨v, _, ⟨T', L', c', n'⟩, -, X', ⟨L, hQ, l1, y1, z1⟩, st⟩ := X.virtualBack hx hown (mvT hZ w1) (mvT hZ w2) (notFace_of_selects (args := #[]) (mvT hZ w5)) (mvT hZ w5) (mvT hZ w6) hy (backOf (W := W) hM hZ w4 w3 hf hl) qa qc hg hsize (Steps.refl _) hlen hstack hW hdg (fun _ _ => ⟨rfl, eT, hc, hs⟩)
  dsimp only [Pt.U, Pt.locs, Pt.cells, Pt.slots] at X' l1 y1 z1 st hQ
  subst l1 y1 z1
  exact own_up (fun t q => st.trans q) (k T' L v X' hQ)
/-- the link names y in a class that inherits it from 'owner' -/
theorem own_callU (X : Stand p l e R s m args below meth c T locs cells slots) (hx : p.tables.exec = Jvm.exec) (hZ : Z.Warmed39 s.vm) {own C owner : String} {index : Nat} {x y : MethodName} {bytes : ByteArray} {maxL : Nat} {ret : Option FieldType} {rm : Room} {as' : Array Value} {Qc : Option Value → Heap → List Loc → Prop}
    (hown : s.vm.findClass own = some m.cls) (w1 : (Jvm.Cond.methodLink own index x).before a0 Z = true) (w7 : (Jvm.Cond.sameMethod x.cls owner x.name x.desc).before a0 Z = true) (w2 : (Jvm.Cond.declares ⟨owner, x.name, x.desc⟩).before a0 Z = true) (w5 : (Jvm.Cond.selects C x y).before a0 Z = true) (w6 : (Jvm.Cond.instanceMethod y).before a0 Z = true) (w3 : (Jvm.Cond.initialized y.cls).before a0 Z = true) (w4 : (Jvm.Cond.code y bytes maxL ret).before a0 Z = true)
    (hy : owner ≠ "java/lang/invoke/MethodHandle" ∧ owner ≠ "java/lang/invoke/VarHandle") (eT : T.heap = h)
    (hM : MetFree l y (head1 [Jvm.Cond.code y bytes maxL ret] rm) (fun a U => a = as' ∧ Z.Warmed39 U.vm ∧ U.heap = h) (fun _ _ _ _ _ => True) (fun _ U o U' => ∃ v L, o = .returned v ∧ Qc v U'.heap L ∧ FrameEnd U o U' L rm.cells rm.slots))
    (W : Nat) {g : JFrame} {a : Addr} (E : Exa Z h a C) (argsL rest : List Value) (hdg : decode c.code g.pc = .ok (.invokevirtual index, 3)) (hlen : ∀ sig, parseMethodDescriptor x.desc = some sig → argsL.length = sig.parameters.length)
    (hf : rm.frames + 1 ≤ R.frames) (hl : W + (maxL + 11) + rm.locals ≤ R.locals) (hc : cells + rm.cells ≤ R.cells) (hs : slots + rm.slots ≤ R.slots)
    (hg : g.method = m) (hsize : g.locals.size = c.maxLocals) (hstack : g.stack = argsL.reverse ++ .ref a :: rest) (hW : 2 * g.monitorRoom + (rest.map fun v => v.category).sum ≤ W) (has : (.ref a :: argsL).toArray = as')
    (k : ∀ T' L v, Stand p l e R s m args below meth c T' (locs ++ L) (cells + rm.cells) (slots + rm.slots) → Qc v T'.heap L → own_Ends p e below s Q kc ks (T'.setTop { g with pc := g.pc + 3, stack := v.toList ++ rest })) :
    own_Ends p e below s Q kc ks (T.setTop g) := by
  subst has
  obtain ⟨cq, kq, qa, qb, qc⟩ := isOf hZ eT E
  obtain ⟨v, _, ⟨T', L', c', n'⟩, -, X', ⟨L, hQ, l1, y1, z1⟩, st⟩ := X.virtualBackUp hx hown (mvT hZ w1) (mvT hZ w7) (mvT hZ w2) hy (mvT hZ w5) (mvT hZ w6) (backOf (W := W) hM hZ w4 w3 hf hl) qa qc hg hsize (Steps.refl _) hlen hstack hW hdg (fun _ _ => ⟨rfl, eT, hc, hs⟩)
  dsimp only [Pt.U, Pt.locs, Pt.cells, Pt.slots] at X' l1 y1 z1 st hQ
  subst l1 y1 z1
  exact own_up (fun t q => st.trans q) (k T' L v X' hQ)
theorem own_init (X : Stand p l e R s m args below meth c T locs cells slots) (hx : p.tables.exec = Jvm.exec) (hZ : Z.Warmed39 s.vm) {own : String} {idx : Nat} (hown : s.vm.findClass own = some m.cls) (w1 : (Jvm.Cond.methodLink own idx Lib.objectInit).before a0 Z = true) (w2 : (Jvm.Cond.instanceMethod Lib.objectInit).before a0 Z = true)
    (w3 : (Jvm.Cond.code Lib.objectInit ⟨#[0xb1]⟩ 1 none).before a0 Z = true) (eT : T.heap = h) (W : Nat) {g g' : JFrame} {a : Addr} {rest : List Value} (hd : decode c.code g.pc = .ok (.invokespecial idx, 3)) (hf : 1 ≤ R.frames) (hl : W + 12 ≤ R.locals)
    (hg : g.method = m) (hsize : g.locals.size = c.maxLocals) (hs : g.stack = .ref a :: rest) (hW : 2 * g.monitorRoom + (rest.map fun v => v.category).sum ≤ W) (hg' : { g with pc := g.pc + 3, stack := rest } = g')
    (k : ∀ T', Stand p l e R s m args below meth c T' locs cells slots → T'.heap = h → own_Ends p e below s Q kc ks (T'.setTop g')) : own_Ends p e below s Q kc ks (T.setTop g) := by
  subst hg'
  obtain ⟨T', X', e', st⟩ := initO X hx hZ hown w1 w2 w3 eT hg hsize hs hd hf hW hl
  exact own_up st (k T' X' e')
/-! the heap -/
theorem own_new (X : Stand p l e R s m args below meth c T locs cells slots) (hx : p.tables.exec = Jvm.exec) (hZ : Z.Warmed39 s.vm) {own C : String} {index n : Nat} (hown : s.vm.findClass own = some m.cls) (w : (Jvm.Cond.classLink own index C).before a0 Z = true) (wi : (Jvm.Cond.instantiable C n).before a0 Z = true) (wz : (Jvm.Cond.initialized C).before a0 Z = true) (eT : T.heap = h)
    {g : JFrame} (hg : g.method = m) (hd : decode c.code g.pc = .ok (.new index, 3)) (hc : cells + 1 ≤ R.cells) (hl : slots + n ≤ R.slots)
    (k : ∀ T' h' b, b = h.size → Stand p l e R s m args below meth c T' locs (cells + 1) (slots + n) → T'.heap = h' → Ext h h' → Exa Z h' b C → (∀ {O nm d : String} {ty : FieldType}, Laid Z a0 C O nm d → parseFieldDescriptor d = some ty → Fld Z h' b O nm d (defaultValue ty)) → own_Ends p e below s Q kc ks (T'.setTop { g with pc := g.pc + 3, stack := .ref b :: g.stack })) : own_Ends p e below s Q kc ks (T.setTop g) := by
  obtain ⟨T', h', X', e', E, A, D, -, st⟩ := newO X hx hZ hown w wi wz eT hg hd hc hl
  exact own_up st (k T' h' _ rfl X' e' E A D)
theorem own_get (X : Stand p l e R s m args below meth c T locs cells slots) (hx : p.tables.exec = Jvm.exec) (hZ : Z.Warmed39 s.vm) {own R0 O n d : String} {index : Nat} (hown : s.vm.findClass own = some m.cls) (w : (Jvm.Cond.fieldLink own index R0 n d).before a0 Z = true) (via : Via Z R0 O n d)
    (eT : T.heap = h) {a : Addr} {v : Value} (F : Fld Z h a O n d v) {g g' : JFrame} {rest : List Value} (hd : decode c.code g.pc = .ok (.getfield index, 3)) (hg : g.method = m) (hs : g.stack = .ref a :: rest) (hg' : { g with pc := g.pc + 3, stack := v :: rest } = g')
    (k : ∀ T', Stand p l e R s m args below meth c T' locs cells slots → T'.heap = h → own_Ends p e below s Q kc ks (T'.setTop g')) : own_Ends p e below s Q kc ks (T.setTop g) := by
  subst hg'
  obtain ⟨T', X', e', st⟩ := getF X hx hZ hown (host := "") (Or.inl w) via eT F hg hs hd
  exact own_up st (k T' X' e')
theorem own_gets (X : Stand p l e R s m args below meth c T locs cells slots) (hx : p.tables.exec = Jvm.exec) (hZ : Z.Warmed39 s.vm) {own R0 O n d : String} {index : Nat} (hown : s.vm.findClass own = some m.cls) (w : (Jvm.Cond.fieldLink own index R0 n d).before a0 Z = true) (via : Via Z R0 O n d)
    (eT : T.heap = h) {v : Value} (F : Sta Z h O n d v) {g g' : JFrame} (hd : decode c.code g.pc = .ok (.getstatic index, 3)) (hg : g.method = m) (hg' : { g with pc := g.pc + 3, stack := v :: g.stack } = g')
    (k : ∀ T', Stand p l e R s m args below meth c T' locs cells slots → T'.heap = h → own_Ends p e below s Q kc ks (T'.setTop g')) : own_Ends p e below s Q kc ks (T.setTop g) := by
  subst hg'
  obtain ⟨T', X', e', st⟩ := getS2 X hx hZ hown (host := "") (Or.inl w) via eT F hg hd
  exact own_up st (k T' X' e')
theorem own_put (X : Stand p l e R s m args below meth c T locs cells slots) (hx : p.tables.exec = Jvm.exec) (hZ : Z.Warmed39 s.vm) {own R0 O n d C : String} {index kk : Nat} (ty : FieldType) (hown : s.vm.findClass own = some m.cls) (w : (Jvm.Cond.fieldLink own index R0 n d).before a0 Z = true) (via : Via Z R0 O n d)
    (eT : T.heap = h) {a : Addr} {v v' old : Value} (F : Fld Z h a O n d old) (E : Exa Z h a C) (L : (Jvm.Cond.lays C O n d).before a0 Z = true ∨ ((Jvm.Cond.laysFinal C O n d).before a0 Z = true ∧ own = O ∧ meth.name = "<init>")) (wi : (Jvm.Cond.instantiable C kk).before a0 Z = true)
    (hty : parseFieldDescriptor d = some ty) (hn : narrow ty v = v') (hf : fits ty v' = true) {g g' : JFrame} {rest : List Value} (hd : decode c.code g.pc = .ok (.putfield index, 3)) (hg : g.method = m) (hs : g.stack = v :: .ref a :: rest) (hg' : { g with pc := g.pc + 3, stack := rest } = g')
    (k : ∀ T' h', Stand p l e R s m args below meth c T' (locs ++ [⟨a, Jvm.RoadKit.slotOf Z O n d⟩]) cells slots → T'.heap = h' → Wr h h' a (Jvm.RoadKit.slotOf Z O n d) v' → own_Ends p e below s Q kc ks (T'.setTop g')) : own_Ends p e below s Q kc ks (T.setTop g) := by
  subst hg'
  obtain ⟨T', h', X', e', W, st⟩ := putFN X hx hZ hown w via eT F E L wi hty hn hf hg hs hd
  exact own_up st (k T' h' X' e' W)
theorem own_fr {k : Nat} {L : List Loc} {a : Addr} {sl : Nat} (N : Fr k L) (q : k ≤ a) : Fr k (L ++ [⟨a, sl⟩]) := N.app fun y hy => by cases List.mem_singleton.mp hy; exact q
/-! arrays: the list of the values -/
def own_Al (Z : State) (h : Heap) (a : Addr) (ty : FieldType) (vs : List Value) : Prop := ∃ c : Cell, Arr Z h a c ty ∧ c.slots.toList = vs ∧ vs.length < 2 ^ 31
theorem own_Al_lt {h : Heap} {a : Addr} {ty : FieldType} {vs : List Value} (A : own_Al Z h a ty vs) : a < h.size := by obtain ⟨c, A, -⟩ := A; exact A.lt
theorem own_Al_ext {h h' : Heap} {a : Addr} {ty : FieldType} {vs : List Value} (E : Ext h h') (A : own_Al Z h a ty vs) : own_Al Z h' a ty vs := by obtain ⟨c, A, r⟩ := A; exact ⟨c, A.ext E, r⟩
theorem own_Al_oth {h h' : Heap} {a b : Addr} {sl : Nat} {v : Value} {ty : FieldType} {vs : List Value} (W : Wr h h' b sl v) (A : own_Al Z h a ty vs) (ne : a ≠ b) : own_Al Z h' a ty vs := by obtain ⟨c, A, r⟩ := A; exact ⟨c, A.other W ne, r⟩
theorem own_Al_keep {h h' : Heap} {a : Addr} {ws : List Addr} {ty : FieldType} {vs : List Value} (K : Keep h h' ws) (A : own_Al Z h a ty vs) (ne : a ∉ ws) : own_Al Z h' a ty vs := by obtain ⟨c, A, r⟩ := A; exact ⟨c, ⟨K.2.1 a c A.1 ne, A.2⟩, r⟩
theorem own_nat {j : Int32} {i : Nat} (hj : j.toInt = i) : ¬ j < 0 ∧ j.toNatClampNeg = i := by
  have h0 : ¬ j < 0 := by rw [Int32.lt_iff_toInt_lt, hj]; have : (0 : Int32).toInt = 0 := rfl; omega
  refine ⟨h0, ?_⟩
  have := nat_of h0
  omega
theorem own_newa (X : Stand p l e R s m args below meth c T locs cells slots) (hx : p.tables.exec = Jvm.exec) (hZ : Z.Warmed39 s.vm) {aty : ArrayType} {ty : FieldType} (hty : newarray.typeOf aty = ty) (w : (Jvm.Cond.arrayClass ty).before a0 Z = true) (eT : T.heap = h) {g : JFrame} {z : Int32} (nn : Nat) {rest : List Value} (hd : decode c.code g.pc = .ok (.newarray aty, 2)) (hn : z.toInt = nn) (cap : Nat) (hcap : nn ≤ cap) (hb : cap * 8 ≤ 536870912) (hc : cells + 1 ≤ R.cells) (hl : slots + cap ≤ R.slots)
    (hg : g.method = m) (hs : g.stack = .int z :: rest)
    (k : ∀ T' h' b, b = h.size → Stand p l e R s m args below meth c T' locs (cells + 1) (slots + cap) → T'.heap = h' → Ext h h' → own_Al Z h' b ty (List.replicate nn (defaultValue ty)) → own_Ends p e below s Q kc ks (T'.setTop { g with pc := g.pc + 2, stack := .ref b :: rest })) : own_Ends p e below s Q kc ks (T.setTop g) := by
  subst hty
  obtain ⟨h0, h1⟩ := own_nat hn
  obtain ⟨T', h', cA, X', e', E, A, st⟩ := newP X hx hZ w eT hg hd hs h0 (cap := cap) (by omega) hb hc hl
  exact own_up st (k T' h' _ rfl X' e' E ⟨_, A, by simp [newA, h1], by simp; omega⟩)
theorem own_in {ty : FieldType} {vs : List Value} {cl : Cell} {j : Int32} {i : Nat} (hv : cl.slots.toList = vs) (hj : j.toInt = i) (hi : i < vs.length) : ¬ (j < 0 ∨ cl.slots.size ≤ j.toNatClampNeg) := by
  obtain ⟨h0, h1⟩ := own_nat hj
  subst hv
  rintro (q | q)
  · exact h0 q
  · rw [h1] at q; simp at hi; omega
theorem own_Al_set {h h' : Heap} {a : Addr} {cl : Cell} {ty : FieldType} {vs : List Value} {j : Int32} {i : Nat} {v : Value} (A : Arr Z h a cl ty) (hv : cl.slots.toList = vs) (hl : vs.length < 2 ^ 31) (hj : j.toInt = i) (W : Wr h h' a j.toNatClampNeg v) : own_Al Z h' a ty (vs.set i v) := by
  obtain ⟨h0, h1⟩ := own_nat hj
  rw [h1] at W
  exact ⟨_, A.same W, by simp [Cell.setSlot, hv], by simpa using hl⟩
theorem own_sti (X : Stand p l e R s m args below meth c T locs cells slots) (hx : p.tables.exec = Jvm.exec) (hZ : Z.Warmed39 s.vm) (eT : T.heap = h) {a : Addr} {vs : List Value} (A : own_Al Z h a .int vs) {j x : Int32} (i : Nat) {g g' : JFrame} {rest : List Value} (hd : decode c.code g.pc = .ok (.iastore, 1)) (hj : j.toInt = i) (hi : i < vs.length) (hg : g.method = m) (hs : g.stack = .int x :: .int j :: .ref a :: rest) (hg' : { g with pc := g.pc + 1, stack := rest } = g')
    (k : ∀ T' h', Stand p l e R s m args below meth c T' (locs ++ [⟨a, j.toNatClampNeg⟩]) cells slots → T'.heap = h' → Wr h h' a j.toNatClampNeg (.int x) → own_Al Z h' a .int (vs.set i (.int x)) → own_Ends p e below s Q kc ks (T'.setTop g')) : own_Ends p e below s Q kc ks (T.setTop g) := by
  subst hg'
  obtain ⟨cl, A, hv, hl⟩ := A
  obtain ⟨T', h', X', e', W, st⟩ := stI X hx hZ eT A (own_in (ty := .int) hv hj hi) hg hs hd
  exact own_up st (k T' h' X' e' W (own_Al_set A hv hl hj W))
theorem own_stj (X : Stand p l e R s m args below meth c T locs cells slots) (hx : p.tables.exec = Jvm.exec) (hZ : Z.Warmed39 s.vm) (eT : T.heap = h) {a : Addr} {vs : List Value} (A : own_Al Z h a .long vs) {j : Int32} {x : Int64} (i : Nat) {g g' : JFrame} {rest : List Value} (hd : decode c.code g.pc = .ok (.lastore, 1)) (hj : j.toInt = i) (hi : i < vs.length) (hg : g.method = m) (hs : g.stack = .long x :: .int j :: .ref a :: rest) (hg' : { g with pc := g.pc + 1, stack := rest } = g')
    (k : ∀ T' h', Stand p l e R s m args below meth c T' (locs ++ [⟨a, j.toNatClampNeg⟩]) cells slots → T'.heap = h' → Wr h h' a j.toNatClampNeg (.long x) → own_Al Z h' a .long (vs.set i (.long x)) → own_Ends p e below s Q kc ks (T'.setTop g')) : own_Ends p e below s Q kc ks (T.setTop g) := by
  subst hg'
  obtain ⟨cl, A, hv, hl⟩ := A
  obtain ⟨T', h', X', e', W, st⟩ := stJ X hx hZ eT A (own_in (ty := .long) hv hj hi) hg hs hd
  exact own_up st (k T' h' X' e' W (own_Al_set A hv hl hj W))
theorem own_stb (X : Stand p l e R s m args below meth c T locs cells slots) (hx : p.tables.exec = Jvm.exec) (hZ : Z.Warmed39 s.vm) (eT : T.heap = h) {a : Addr} {vs : List Value} (A : own_Al Z h a .byte vs) {j x : Int32} (i : Nat) {g g' : JFrame} {rest : List Value} (hd : decode c.code g.pc = .ok (.bastore, 1)) (hj : j.toInt = i) (hi : i < vs.length) (hg : g.method = m) (hs : g.stack = .int x :: .int j :: .ref a :: rest) (hg' : { g with pc := g.pc + 1, stack := rest } = g')
    (k : ∀ T' h', Stand p l e R s m args below meth c T' (locs ++ [⟨a, j.toNatClampNeg⟩]) cells slots → T'.heap = h' → Wr h h' a j.toNatClampNeg (.int (nar .byte x)) → own_Al Z h' a .byte (vs.set i (.int (nar .byte x))) → own_Ends p e below s Q kc ks (T'.setTop g')) : own_Ends p e below s Q kc ks (T.setTop g) := by
  subst hg'
  obtain ⟨cl, A, hv, hl⟩ := A
  obtain ⟨T', h', X', e', W, st⟩ := stB X hx hZ eT A (own_in (ty := .byte) hv hj hi) hg hs hd
  exact own_up st (k T' h' X' e' W (own_Al_set A hv hl hj W))
theorem own_at {vs : List Value} {cl : Cell} {j : Int32} {i : Nat} {v : Value} (hv : cl.slots.toList = vs) (hj : j.toInt = i) (hi : vs[i]? = some v) : cl.slots[j.toNatClampNeg]? = some v := by
  rw [(own_nat hj).2, ← Array.getElem?_toList, hv]; exact hi
theorem own_ldi (X : Stand p l e R s m args below meth c T locs cells slots) (hx : p.tables.exec = Jvm.exec) (hZ : Z.Warmed39 s.vm) (eT : T.heap = h) {a : Addr} {vs : List Value} (A : own_Al Z h a .int vs) {j : Int32} {v : Value} (i : Nat) {g g' : JFrame} {rest : List Value} (hd : decode c.code g.pc = .ok (.iaload, 1)) (hj : j.toInt = i) (hi : vs[i]? = some v) (hg : g.method = m) (hs : g.stack = .int j :: .ref a :: rest) (hg' : { g with pc := g.pc + 1, stack := v :: rest } = g')
    (k : own_Ends p e below s Q kc ks (T.setTop g')) : own_Ends p e below s Q kc ks (T.setTop g) := by
  subst hg'
  obtain ⟨cl, A, hv, hl⟩ := A
  exact own_up (fun t => X.iaload hx (by rw [eT]; exact A.1) (State.isArrayOf_alike hZ.alike A.2.1) A.2.2 (own_in (ty := .int) hv hj (List.getElem?_eq_some_iff.mp hi).1) (own_at hv hj hi) hg hs hd t) k
theorem own_ldj (X : Stand p l e R s m args below meth c T locs cells slots) (hx : p.tables.exec = Jvm.exec) (hZ : Z.Warmed39 s.vm) (eT : T.heap = h) {a : Addr} {vs : List Value} (A : own_Al Z h a .long vs) {j : Int32} {v : Value} (i : Nat) {g g' : JFrame} {rest : List Value} (hd : decode c.code g.pc = .ok (.laload, 1)) (hj : j.toInt = i) (hi : vs[i]? = some v) (hg : g.method = m) (hs : g.stack = .int j :: .ref a :: rest) (hg' : { g with pc := g.pc + 1, stack := v :: rest } = g')
    (k : own_Ends p e below s Q kc ks (T.setTop g')) : own_Ends p e below s Q kc ks (T.setTop g) := by
  subst hg'
  obtain ⟨cl, A, hv, hl⟩ := A
  exact own_up (fun t => X.laload hx (by rw [eT]; exact A.1) (State.isArrayOf_alike hZ.alike A.2.1) A.2.2 (own_in (ty := .long) hv hj (List.getElem?_eq_some_iff.mp hi).1) (own_at hv hj hi) hg hs hd t) k
theorem own_ldb (X : Stand p l e R s m args below meth c T locs cells slots) (hx : p.tables.exec = Jvm.exec) (hZ : Z.Warmed39 s.vm) (eT : T.heap = h) {a : Addr} {vs : List Value} (A : own_Al Z h a .byte vs) {j : Int32} {v : Value} (i : Nat) {g g' : JFrame} {rest : List Value} (hd : decode c.code g.pc = .ok (.baload, 1)) (hj : j.toInt = i) (hi : vs[i]? = some v) (hg : g.method = m) (hs : g.stack = .int j :: .ref a :: rest) (hg' : { g with pc := g.pc + 1, stack := v :: rest } = g')
    (k : own_Ends p e below s Q kc ks (T.setTop g')) : own_Ends p e below s Q kc ks (T.setTop g) := by
  subst hg'
  obtain ⟨cl, A, hv, hl⟩ := A
  exact own_up (fun t => X.baloadBytes hx (by rw [eT]; exact A.1) (State.isArrayOf_alike hZ.alike A.2.1) A.2.2 (own_in (ty := .byte) hv hj (List.getElem?_eq_some_iff.mp hi).1) (own_at hv hj hi) hg hs hd t) k
theorem own_len (X : Stand p l e R s m args below meth c T locs cells slots) (hx : p.tables.exec = Jvm.exec) (hZ : Z.Warmed39 s.vm) (eT : T.heap = h) {a : Addr} {ty : FieldType} {vs : List Value} (A : own_Al Z h a ty vs) {g g' : JFrame} {rest : List Value} (z : Int32) (hd : decode c.code g.pc = .ok (.arraylength, 1)) (hz : z.toInt = vs.length) (hg : g.method = m) (hs : g.stack = .ref a :: rest) (hg' : { g with pc := g.pc + 1, stack := .int z :: rest } = g')
    (k : own_Ends p e below s Q kc ks (T.setTop g')) : own_Ends p e below s Q kc ks (T.setTop g) := by
  subst hg'
  obtain ⟨cl, A, hv, hl⟩ := A
  have q : cl.slots.size.toInt32 = z := by
    apply Int32.toInt_inj.mp
    have h2 : cl.slots.size = vs.length := by rw [← hv]; simp
    rw [hz, h2, len_toInt hl]
  exact own_up (fun t => X.arraylength hx (by rw [eT]; exact A.1) (State.isArrayOf_alike hZ.alike A.2.1) hg hs hd t) (by rw [q]; exact k)
end Own
theorem own_pp {x r : Int32} (h : r.toInt = min (x &&& (2147483647 : Int32)).toInt (2147483646 : Int32).toInt) : 0 ≤ r.toInt ∧ r.toInt ≤ 2147483646 := by
  have h1 : (x &&& (2147483647 : Int32)).toInt = x.toInt % 2147483648 := c_mask x (2147483647 : Int32) 31 (by decide) (by decide)
  have z : (2147483646 : Int32).toInt = 2147483646 := rfl
  omega
theorem own_bb {y b : Int32} (h : b = (y &&& (7 : Int32))) : 0 ≤ b.toInt ∧ b.toInt ≤ 7 := by
  have h1 : (y &&& (7 : Int32)).toInt = y.toInt % 8 := c_mask y (7 : Int32) 3 (by decide) (by decide)
  rw [h]; omega
theorem own_9 {b : Int32} (h0 : 0 ≤ b.toInt) (h1 : b.toInt ≤ 7) : ((9 : Int32) - b).toInt = 9 - b.toInt := by
  have h2 := c_isub (9 : Int32) b
  have z : (9 : Int32).toInt = 9 := rfl
  have r := rng32 ((9 : Int32) - b)
  omega
theorem own_nz {y b : Int32} (h : b = (y &&& (7 : Int32))) : ((9 : Int32) - b) ≠ 0 := fun q => by
  obtain ⟨h0, h1⟩ := own_bb h
  have h2 := own_9 h0 h1
  rw [q] at h2
  have z : (0 : Int32).toInt = 0 := rfl
  omega
theorem own_cn {z b n : Int32} (h : n = ((z &&& (2147483647 : Int32)) % ((9 : Int32) - b))) (h0 : 0 ≤ b.toInt) (h1 : b.toInt ≤ 7) : 0 ≤ n.toInt ∧ n.toInt ≤ 8 - b.toInt := by
  have h2 := own_9 h0 h1
  have h3 : (z &&& (2147483647 : Int32)).toInt = z.toInt % 2147483648 := c_mask z (2147483647 : Int32) 31 (by decide) (by decide)
  have h4 := (c_iremV (z &&& (2147483647 : Int32)) ((9 : Int32) - b)).1 (by omega) (by omega)
  rw [h]; omega
theorem own_nb {b n : Int32} (h0 : 0 ≤ b.toInt) (h1 : b.toInt ≤ 7) (h2 : 0 ≤ n.toInt) (h3 : n.toInt ≤ 8 - b.toInt) : (b + n).toInt = b.toInt + n.toInt := by
  have h4 := c_iadd b n
  have r := rng32 (b + n)
  omega
theorem own_8p {p : Int32} (h0 : 0 ≤ p.toInt) (h1 : p.toInt ≤ 2147483646) : ((8 : Int64) * p.toInt64).toInt = 8 * p.toInt := by
  have h2 := c_lmul (8 : Int64) p.toInt64
  have z : (8 : Int64).toInt = 8 := rfl
  rw [z, c_i2l] at h2
  have r := rng64 ((8 : Int64) * p.toInt64)
  omega
theorem own_8pb {p b : Int32} (h0 : 0 ≤ p.toInt) (h1 : p.toInt ≤ 2147483646) (h2 : 0 ≤ b.toInt) (h3 : b.toInt ≤ 16) : (((8 : Int64) * p.toInt64) + b.toInt64).toInt = 8 * p.toInt + b.toInt := by
  have h4 := own_8p h0 h1
  have h5 := c_ladd ((8 : Int64) * p.toInt64) b.toInt64
  rw [c_i2l] at h5
  have r := rng64 (((8 : Int64) * p.toInt64) + b.toInt64)
  omega
theorem own_mv {p b : Int32} (h0 : 0 ≤ p.toInt) (h1 : p.toInt ≤ 2147483646) (h2 : 0 ≤ b.toInt) (h3 : b.toInt ≤ 7) :
    ((((8 : Int64) * p.toInt64) + b.toInt64) / (8 : Int64)).toInt32 = p ∧ ((((8 : Int64) * p.toInt64) + b.toInt64) - ((((8 : Int64) * p.toInt64) + b.toInt64) / (8 : Int64)) * (8 : Int64)).toInt32 = b := by
  have h4 := own_8pb h0 h1 h2 (by omega)
  generalize (((8 : Int64) * p.toInt64) + b.toInt64) = v at *
  have h5 := (c_ldiv v (8 : Int64) 8 rfl (by decide)).1 (by omega)
  have h6 := (c_lrem v (8 : Int64) 8 rfl).1 (by omega)
  have h7 := c_l2i (v / (8 : Int64))
  have h8 := c_l2i (v - (v / (8 : Int64)) * (8 : Int64))
  have r1 := rng32 (v / (8 : Int64)).toInt32
  have r2 := rng32 (v - (v / (8 : Int64)) * (8 : Int64)).toInt32
  have r3 := rng32 p
  have r4 := rng32 b
  exact ⟨Int32.toInt_inj.mp (by omega), Int32.toInt_inj.mp (by omega)⟩
theorem own_tot {p b n : Int32} (h0 : 0 ≤ p.toInt) (h1 : p.toInt ≤ 2147483646) (h2 : 0 ≤ b.toInt) (h3 : b.toInt ≤ 7) (h4 : 0 ≤ n.toInt) (h5 : n.toInt ≤ 8 - b.toInt) : ((((8 : Int64) * p.toInt64) + b.toInt64) + n.toInt64).toInt = 8 * p.toInt + b.toInt + n.toInt := by
  have h6 := own_8pb h0 h1 h2 (by omega)
  have h7 := c_ladd (((8 : Int64) * p.toInt64) + b.toInt64) n.toInt64
  rw [c_i2l] at h7
  have r := rng64 ((((8 : Int64) * p.toInt64) + b.toInt64) + n.toInt64)
  omega
theorem own_off8 {p b n : Int32} (h0 : 0 ≤ p.toInt) (h1 : p.toInt ≤ 2147483646) (h2 : 0 ≤ b.toInt) (h3 : b.toInt ≤ 7) (h4 : 0 ≤ n.toInt) (h5 : n.toInt ≤ 8 - b.toInt) (h6 : b.toInt + n.toInt = 8) :
    (((8 : Int64) * (p + (1 : Int32)).toInt64) + (0 : Int32).toInt64).toInt = ((((8 : Int64) * p.toInt64) + b.toInt64) + n.toInt64).toInt := by
  rw [own_tot h0 h1 h2 h3 h4 h5]
  have h7 := c_iadd p (1 : Int32)
  have z : (1 : Int32).toInt = 1 := rfl
  have r1 := rng32 (p + (1 : Int32))
  have h8 := c_lmul (8 : Int64) (p + (1 : Int32)).toInt64
  have z8 : (8 : Int64).toInt = 8 := rfl
  rw [z8, c_i2l] at h8
  have h9 := c_ladd ((8 : Int64) * (p + (1 : Int32)).toInt64) (0 : Int32).toInt64
  have z0 : (0 : Int32).toInt64.toInt = 0 := rfl
  have r2 := rng64 ((8 : Int64) * (p + (1 : Int32)).toInt64)
  have r3 := rng64 (((8 : Int64) * (p + (1 : Int32)).toInt64) + (0 : Int32).toInt64)
  omega
theorem own_offn {p b n nb : Int32} (h0 : 0 ≤ p.toInt) (h1 : p.toInt ≤ 2147483646) (h2 : 0 ≤ b.toInt) (h3 : b.toInt ≤ 7) (h4 : 0 ≤ n.toInt) (h5 : n.toInt ≤ 8 - b.toInt) (h6 : nb.toInt = b.toInt + n.toInt) :
    (((8 : Int64) * p.toInt64) + nb.toInt64).toInt = ((((8 : Int64) * p.toInt64) + b.toInt64) + n.toInt64).toInt := by
  rw [own_tot h0 h1 h2 h3 h4 h5, own_8pb h0 h1 (by omega) (by omega)]
  omega
theorem own_pd0 : parseMethodDescriptor "()V" = some ⟨[], none⟩ := by decide +kernel
theorem own_pd1 : parseMethodDescriptor "(II)I" = some ⟨[.int, .int], some .int⟩ := by decide +kernel
theorem own_pd2 : parseMethodDescriptor "(J)V" = some ⟨[.long], none⟩ := by decide +kernel
theorem own_pd3 : parseMethodDescriptor "()I" = some ⟨[], some .int⟩ := by decide +kernel
theorem own_pd4 : parseMethodDescriptor "(I)V" = some ⟨[.int], none⟩ := by decide +kernel
theorem own_pd5 : parseMethodDescriptor "()J" = some ⟨[], some .long⟩ := by decide +kernel
theorem d1_0 : decode jdk_29_method_69_code 0 = .ok (.iload_n 0, 1) := by decide +kernel
theorem d1_1 : decode jdk_29_method_69_code 1 = .ok (.iload_n 1, 1) := by decide +kernel
theorem d1_2 : decode jdk_29_method_69_code 2 = .ok (.if_icmp .gt 7, 3) := by decide +kernel
theorem d1_5 : decode jdk_29_method_69_code 5 = .ok (.iload_n 0, 1) := by decide +kernel
theorem d1_6 : decode jdk_29_method_69_code 6 = .ok (.goto 4, 3) := by decide +kernel
theorem d1_9 : decode jdk_29_method_69_code 9 = .ok (.iload_n 1, 1) := by decide +kernel
theorem d1_10 : decode jdk_29_method_69_code 10 = .ok (.ireturn, 1) := by decide +kernel
def own_R1 : Room := { frames := 0, cells := 0, slots := 0, locals := 0 }
theorem own_ef1 (p0 : Int32) (p1 : Int32) (m : MethodId) : entryFrame m #[(.int p0), (.int p1)] 2 = mkF m 0 #[.val (.int p0), .val (.int p1)] [] := by first | (simp [entryFrame, mkF, argsToLocals, Value.category]; done) | rfl
def own_Q1 (Z : State) (p0 : Int32) (p1 : Int32)  (h0 : Heap) (n0 : Nat) (v : Option Value) (h : Heap) (L : List Loc) : Prop := ∃ r : Int32, v = some (.int r) ∧ (r.toInt = min p0.toInt p1.toInt) ∧ Fr n0 L ∧ h = h0
set_option maxRecDepth 65536 in
set_option maxHeartbeats 40000000 in
theorem rm1 (l : Launch) (Z : State) (a0 : Array Value) (hw : ∀ d ∈ tables_1, d.before a0 Z = true) (ws : List Jvm.Cond) (p0 : Int32) (p1 : Int32)  (h0 : Heap) (n0 : Nat) (Z0 : n0 ≤ h0.size)  :
    MetFree l (⟨"java/lang/Math", "min", "(II)I"⟩ : MethodName) (head1 (Jvm.Cond.code (⟨"java/lang/Math", "min", "(II)I"⟩ : MethodName) jdk_29_method_69_code 2 (some .int) :: ws) own_R1) (fun a U => a = #[(.int p0), (.int p1)] ∧ Z.Warmed39 U.vm ∧ U.heap = h0) (fun _ _ _ _ _ => True) (fun _ U o U' => ∃ v L, o = .returned v ∧ own_Q1 Z p0 p1 h0 n0 v U'.heap L ∧ FrameEnd U o U' L own_R1.cells own_R1.slots) := by
  refine own_met (Q := own_Q1 Z p0 p1 h0 n0) (by decide +kernel) (own_ef1 p0 p1) ?_
  intro p e s m below meth c T0 hx hby hml hown hnm hret hlk hZ e0 X0
  have N0 := Fr.nil n0
  refine own_up (S' := T0.setTop (mkF m 1 #[.val (.int p0), .val (.int p1)] [(.int p0)])) (fun t stp => XS.iloadN X0.here hx rfl (hb hby d1_0) rfl stp) ?_
  refine own_up (S' := T0.setTop (mkF m 2 #[.val (.int p0), .val (.int p1)] [(.int p1), (.int p0)])) (fun t stp => XS.iloadN X0.here hx rfl (hb hby d1_1) rfl stp) ?_
  by_cases hc2_1 : p1 < p0
  · have ihc2_1 : p1.toInt < p0.toInt := own_ilt hc2_1
    refine own_up (S' := T0.setTop (mkF m 9 #[.val (.int p0), .val (.int p1)] [])) (fun t stp => XS.icmpYes X0.here hx rfl (pc0 := 2) (pc' := 9) rfl (hb hby d1_2) rfl (XT.ii_gt_t hc2_1) (by decide) (by decide) stp) ?_
    refine own_up (S' := T0.setTop (mkF m 10 #[.val (.int p0), .val (.int p1)] [(.int p1)])) (fun t stp => XS.iloadN X0.here hx rfl (hb hby d1_9) rfl stp) ?_
    refine own_retI X0 hx hlk hret (hb hby d1_10) (by decide) (by decide) ?_
    show own_Q1 Z p0 p1 h0 n0 _ T0.heap _
    rw [e0]
    exact ⟨p1, rfl, by omega, N0, rfl⟩
  · have ihc2_1 : p0.toInt ≤ p1.toInt := own_inl hc2_1
    refine own_up (S' := T0.setTop (mkF m 5 #[.val (.int p0), .val (.int p1)] [])) (fun t stp => XS.icmpNo X0.here hx rfl (hb hby d1_2) rfl (XT.ii_gt_f hc2_1) stp) ?_
    refine own_up (S' := T0.setTop (mkF m 6 #[.val (.int p0), .val (.int p1)] [(.int p0)])) (fun t stp => XS.iloadN X0.here hx rfl (hb hby d1_5) rfl stp) ?_
    refine own_up (S' := T0.setTop (mkF m 10 #[.val (.int p0), .val (.int p1)] [(.int p0)])) (fun t stp => XS.goto X0.here hx rfl (pc0 := 6) (pc' := 10) rfl (hb hby d1_6) (by decide) (by decide) stp) ?_
    refine own_retI X0 hx hlk hret (hb hby d1_10) (by decide) (by decide) ?_
    show own_Q1 Z p0 p1 h0 n0 _ T0.heap _
    rw [e0]
    exact ⟨p0, rfl, by omega, N0, rfl⟩
theorem d2_0 : decode prog_14_method_1_code 0 = .ok (.aload_n 0, 1) := by decide +kernel
theorem d2_1 : decode prog_14_method_1_code 1 = .ok (.invokespecial 1, 3) := by decide +kernel
theorem d2_4 : decode prog_14_method_1_code 4 = .ok (.return_, 1) := by decide +kernel
def own_R2 : Room := { frames := 1, cells := 0, slots := 0, locals := 12 }
theorem own_ef2 (oo : Addr) (m : MethodId) : entryFrame m #[(.ref oo)] 1 = mkF m 0 #[.val (.ref oo)] [] := by first | (simp [entryFrame, mkF, argsToLocals, Value.category]; done) | rfl
def own_Q2 (Z : State) (oo : Addr)  (h0 : Heap) (n0 : Nat) (v : Option Value) (h : Heap) (L : List Loc) : Prop := v = none ∧ Fr n0 L ∧ h = h0
set_option maxRecDepth 65536 in
set_option maxHeartbeats 40000000 in
theorem rm2 (l : Launch) (Z : State) (a0 : Array Value) (hw : ∀ d ∈ tables_1, d.before a0 Z = true) (ws : List Jvm.Cond) (oo : Addr)  (h0 : Heap) (n0 : Nat) (Z0 : n0 ≤ h0.size)  :
    MetFree l (⟨"com/example/wireloom/wireloom/Cursor", "<init>", "()V"⟩ : MethodName) (head1 (Jvm.Cond.code (⟨"com/example/wireloom/wireloom/Cursor", "<init>", "()V"⟩ : MethodName) prog_14_method_1_code 1 none :: ws) own_R2) (fun a U => a = #[(.ref oo)] ∧ Z.Warmed39 U.vm ∧ U.heap = h0) (fun _ _ _ _ _ => True) (fun _ U o U' => ∃ v L, o = .returned v ∧ own_Q2 Z oo h0 n0 v U'.heap L ∧ FrameEnd U o U' L own_R2.cells own_R2.slots) := by
  refine own_met (Q := own_Q2 Z oo h0 n0) (plainFor_of_name (by first | (simp [plainName, overriddenIn]; done) | decide +kernel)) (own_ef2 oo) ?_
  intro p e s m below meth c T0 hx hby hml hown hnm hret hlk hZ e0 X0
  have N0 := Fr.nil n0
  refine own_up (S' := T0.setTop (mkF m 1 #[.val (.ref oo)] [(.ref oo)])) (fun t stp => XS.aloadN X0.here hx rfl (hb hby d2_0) rfl rfl stp) ?_
  refine own_init X0 hx hZ hown (hw _ (List.mem_of_getElem? (i := 17) rfl)) (hw _ (List.mem_of_getElem? (i := 18) rfl)) (hw _ (List.mem_of_getElem? (i := 19) rfl)) e0 0 (g' := (mkF m 4 #[.val (.ref oo)] [])) (hb hby d2_1) (by decide) (by decide) rfl (by rw [hml]; rfl) rfl (by show 2 * 0 + _ ≤ _; exact Nat.le_of_eq rfl) rfl ?_
  intro T1 X1 e1
  refine own_retV X1 hx hlk hret (hb hby d2_4) (by decide) (by decide) ?_
  show own_Q2 Z oo h0 n0 _ T1.heap _
  rw [e1]
  exact ⟨rfl, N0, rfl⟩
theorem d3_0 : decode method_1_code 0 = .ok (.aload_n 0, 1) := by decide +kernel
theorem d3_1 : decode method_1_code 1 = .ok (.invokespecial 1, 3) := by decide +kernel
theorem d3_4 : decode method_1_code 4 = .ok (.return_, 1) := by decide +kernel
def own_R3 : Room := { frames := 2, cells := 0, slots := 0, locals := 24 }
theorem own_ef3 (oo : Addr) (m : MethodId) : entryFrame m #[(.ref oo)] 1 = mkF m 0 #[.val (.ref oo)] [] := by first | (simp [entryFrame, mkF, argsToLocals, Value.category]; done) | rfl
def own_Q3 (Z : State) (oo : Addr)  (h0 : Heap) (n0 : Nat) (v : Option Value) (h : Heap) (L : List Loc) : Prop := v = none ∧ Fr n0 L ∧ h = h0
set_option maxRecDepth 65536 in
set_option maxHeartbeats 40000000 in
theorem rm3 (l : Launch) (Z : State) (a0 : Array Value) (hw : ∀ d ∈ tables_1, d.before a0 Z = true) (ws : List Jvm.Cond) (oo : Addr)  (h0 : Heap) (n0 : Nat) (Z0 : n0 ≤ h0.size)  :
    MetFree l (⟨"com/example/wireloom/wireloom/CursorAdvanceBitsPinLaw", "<init>", "()V"⟩ : MethodName) (head1 (Jvm.Cond.code (⟨"com/example/wireloom/wireloom/CursorAdvanceBitsPinLaw", "<init>", "()V"⟩ : MethodName) method_1_code 1 none :: ws) own_R3) (fun a U => a = #[(.ref oo)] ∧ Z.Warmed39 U.vm ∧ U.heap = h0) (fun _ _ _ _ _ => True) (fun _ U o U' => ∃ v L, o = .returned v ∧ own_Q3 Z oo h0 n0 v U'.heap L ∧ FrameEnd U o U' L own_R3.cells own_R3.slots) := by
  refine own_met (Q := own_Q3 Z oo h0 n0) (plainFor_of_name (by first | (simp [plainName, overriddenIn]; done) | decide +kernel)) (own_ef3 oo) ?_
  intro p e s m below meth c T0 hx hby hml hown hnm hret hlk hZ e0 X0
  have N0 := Fr.nil n0
  refine own_up (S' := T0.setTop (mkF m 1 #[.val (.ref oo)] [(.ref oo)])) (fun t stp => XS.aloadN X0.here hx rfl (hb hby d3_0) rfl rfl stp) ?_
  refine own_callI X0 hx hZ rfl hown (hw _ (List.mem_of_getElem? (i := 12) rfl)) (hw _ (List.mem_of_getElem? (i := 13) rfl)) (hw _ (List.mem_of_getElem? (i := 15) rfl)) (hw _ (List.mem_of_getElem? (i := 16) rfl)) (by decide) e0 (rm2 l Z a0 hw [] oo h0 n0 Z0 ) 0 oo [] [] (hb hby d3_1) (lenOf own_pd0 rfl) (by decide) (by decide) (by decide) (by decide) rfl (by rw [hml]; rfl) rfl (by show 2 * 0 + _ ≤ _; exact Nat.le_of_eq rfl) rfl ?_
  intro T1 L1 r1 X1 q1
  obtain ⟨rfl, M1, e1⟩ := q1
  have N1 := Fr.app N0 M1
  show own_Ends p e below s (own_Q3 Z oo h0 n0) own_R3.cells own_R3.slots (T1.setTop (mkF m 4 #[.val (.ref oo)] []))
  refine own_retV X1 hx hlk hret (hb hby d3_4) (by decide) (by decide) ?_
  show own_Q3 Z oo h0 n0 _ T1.heap _
  rw [e1]
  exact ⟨rfl, N1, rfl⟩
theorem d4_0 : decode prog_14_method_5_code 0 = .ok (.aload_n 0, 1) := by decide +kernel
theorem d4_1 : decode prog_14_method_5_code 1 = .ok (.lload_n 1, 1) := by decide +kernel
theorem d4_2 : decode prog_14_method_5_code 2 = .ok (.ldc2_w 16, 3) := by decide +kernel
theorem d4_5 : decode prog_14_method_5_code 5 = .ok (.ldiv, 1) := by decide +kernel
theorem d4_6 : decode prog_14_method_5_code 6 = .ok (.l2i, 1) := by decide +kernel
theorem d4_7 : decode prog_14_method_5_code 7 = .ok (.putfield 7, 3) := by decide +kernel
theorem d4_10 : decode prog_14_method_5_code 10 = .ok (.aload_n 0, 1) := by decide +kernel
theorem d4_11 : decode prog_14_method_5_code 11 = .ok (.lload_n 1, 1) := by decide +kernel
theorem d4_12 : decode prog_14_method_5_code 12 = .ok (.ldc2_w 16, 3) := by decide +kernel
theorem d4_15 : decode prog_14_method_5_code 15 = .ok (.lrem, 1) := by decide +kernel
theorem d4_16 : decode prog_14_method_5_code 16 = .ok (.l2i, 1) := by decide +kernel
theorem d4_17 : decode prog_14_method_5_code 17 = .ok (.putfield 13, 3) := by decide +kernel
theorem d4_20 : decode prog_14_method_5_code 20 = .ok (.return_, 1) := by decide +kernel
def own_R4 : Room := { frames := 0, cells := 0, slots := 0, locals := 0 }
theorem own_ef4 (oo : Addr) (p1 : Int64) (m : MethodId) : entryFrame m #[(.ref oo), (.long p1)] 3 = mkF m 0 #[.val (.ref oo), .val (.long p1), .second] [] := by first | (simp [entryFrame, mkF, argsToLocals, Value.category]; done) | rfl
def own_Q4 (Z : State) (oo : Addr) (p1 : Int64)  (h0 : Heap) (n0 : Nat) (v : Option Value) (h : Heap) (L : List Loc) : Prop := v = none ∧ Fr n0 L ∧ Keep h0 h [oo] ∧ Fld Z h oo "com/example/wireloom/wireloom/Cursor" "position" "I" (.int (p1 / (8 : Int64)).toInt32) ∧ Fld Z h oo "com/example/wireloom/wireloom/Cursor" "bit" "I" (.int (p1 - (p1 / (8 : Int64)) * (8 : Int64)).toInt32)
set_option maxRecDepth 65536 in
set_option maxHeartbeats 40000000 in
theorem rm4 (l : Launch) (Z : State) (a0 : Array Value) (hw : ∀ d ∈ tables_1, d.before a0 Z = true) (ws : List Jvm.Cond) (oo : Addr) (p1 : Int64)  (h0 : Heap) (n0 : Nat) (Z0 : n0 ≤ h0.size) (Fp : Fld Z h0 oo "com/example/wireloom/wireloom/Cursor" "position" "I" (.int (0 : Int32))) (Fb : Fld Z h0 oo "com/example/wireloom/wireloom/Cursor" "bit" "I" (.int (0 : Int32))) (Et : Exa Z h0 oo "com/example/wireloom/wireloom/CursorAdvanceBitsPinLaw") (gt : n0 ≤ oo) :
    MetFree l (⟨"com/example/wireloom/wireloom/Cursor", "moveTo", "(J)V"⟩ : MethodName) (head1 (Jvm.Cond.code (⟨"com/example/wireloom/wireloom/Cursor", "moveTo", "(J)V"⟩ : MethodName) prog_14_method_5_code 3 none :: ws) own_R4) (fun a U => a = #[(.ref oo), (.long p1)] ∧ Z.Warmed39 U.vm ∧ U.heap = h0) (fun _ _ _ _ _ => True) (fun _ U o U' => ∃ v L, o = .returned v ∧ own_Q4 Z oo p1 h0 n0 v U'.heap L ∧ FrameEnd U o U' L own_R4.cells own_R4.slots) := by
  refine own_met (Q := own_Q4 Z oo p1 h0 n0) (plainFor_of_name (by first | (simp [plainName, overriddenIn]; done) | decide +kernel)) (own_ef4 oo p1) ?_
  intro p e s m below meth c T0 hx hby hml hown hnm hret hlk hZ e0 X0
  have N0 := Fr.nil n0
  refine own_up (S' := T0.setTop (mkF m 1 #[.val (.ref oo), .val (.long p1), .second] [(.ref oo)])) (fun t stp => XS.aloadN X0.here hx rfl (hb hby d4_0) rfl rfl stp) ?_
  refine own_up (S' := T0.setTop (mkF m 2 #[.val (.ref oo), .val (.long p1), .second] [(.long p1), (.ref oo)])) (fun t stp => XT.lloadN X0.here hx rfl (hb hby d4_1) rfl stp) ?_
  refine own_up (S' := T0.setTop (mkF m 5 #[.val (.ref oo), .val (.long p1), .second] [(.long (8 : Int64)), (.long p1), (.ref oo)])) (fun t stp => X0.ldc2J hx hown (mvT hZ (hw _ (List.mem_of_getElem? (i := 27) rfl))) rfl (hb hby d4_2) stp) ?_
  refine own_up (S' := T0.setTop (mkF m 6 #[.val (.ref oo), .val (.long p1), .second] [(.long (p1 / (8 : Int64))), (.ref oo)])) (fun t stp => XT.ldiv X0.here hx rfl (hb hby d4_5) rfl (by decide) stp) ?_
  refine own_up (S' := T0.setTop (mkF m 7 #[.val (.ref oo), .val (.long p1), .second] [(.int (p1 / (8 : Int64)).toInt32), (.ref oo)])) (fun t stp => XT.l2i X0.here hx rfl (hb hby d4_6) rfl stp) ?_
  refine own_put X0 hx hZ .int hown (hw _ (List.mem_of_getElem? (i := 28) rfl)) Via.refl e0 Fp Et (Or.inl (hw _ (List.mem_of_getElem? (i := 29) rfl))) (hw _ (List.mem_of_getElem? (i := 7) rfl)) (by decide) (v' := (.int (p1 / (8 : Int64)).toInt32)) (rfl) (rfl) (g' := (mkF m 10 #[.val (.ref oo), .val (.long p1), .second] [])) (hb hby d4_7) rfl rfl rfl ?_
  intro T1 h1 X1 e1 W1
  have Zn2 := Nat.le_trans Z0 (Nat.le_of_eq W1.size.symm)
  have Fb_3 := Fb.other W1 (Or.inr (slot_ne (Or.inl (hw _ (List.mem_of_getElem? (i := 31) rfl))) (Or.inl (hw _ (List.mem_of_getElem? (i := 29) rfl))) (by decide) (t := .int) (t' := .int) (by decide) (by decide)))
  have Et_3 := Et.wr W1
  have Kp4 := (Keep.refl h0 [oo]).wr W1 (Or.inl (List.mem_of_getElem? (i := 0) rfl))
  have N1 := Fr.snoc X1 N0 gt
  have Fposition_1 := Fp.same W1
  refine own_up (S' := T1.setTop (mkF m 11 #[.val (.ref oo), .val (.long p1), .second] [(.ref oo)])) (fun t stp => XS.aloadN X1.here hx rfl (hb hby d4_10) rfl rfl stp) ?_
  refine own_up (S' := T1.setTop (mkF m 12 #[.val (.ref oo), .val (.long p1), .second] [(.long p1), (.ref oo)])) (fun t stp => XT.lloadN X1.here hx rfl (hb hby d4_11) rfl stp) ?_
  refine own_up (S' := T1.setTop (mkF m 15 #[.val (.ref oo), .val (.long p1), .second] [(.long (8 : Int64)), (.long p1), (.ref oo)])) (fun t stp => X1.ldc2J hx hown (mvT hZ (hw _ (List.mem_of_getElem? (i := 27) rfl))) rfl (hb hby d4_12) stp) ?_
  refine own_up (S' := T1.setTop (mkF m 16 #[.val (.ref oo), .val (.long p1), .second] [(.long (p1 - (p1 / (8 : Int64)) * (8 : Int64))), (.ref oo)])) (fun t stp => XT.lrem X1.here hx rfl (hb hby d4_15) rfl (by decide) stp) ?_
  refine own_up (S' := T1.setTop (mkF m 17 #[.val (.ref oo), .val (.long p1), .second] [(.int (p1 - (p1 / (8 : Int64)) * (8 : Int64)).toInt32), (.ref oo)])) (fun t stp => XT.l2i X1.here hx rfl (hb hby d4_16) rfl stp) ?_
  refine own_put X1 hx hZ .int hown (hw _ (List.mem_of_getElem? (i := 30) rfl)) Via.refl e1 Fb_3 Et_3 (Or.inl (hw _ (List.mem_of_getElem? (i := 31) rfl))) (hw _ (List.mem_of_getElem? (i := 7) rfl)) (by decide) (v' := (.int (p1 - (p1 / (8 : Int64)) * (8 : Int64)).toInt32)) (rfl) (rfl) (g' := (mkF m 20 #[.val (.ref oo), .val (.long p1), .second] [])) (hb hby d4_17) rfl rfl rfl ?_
  intro T5 h5 X5 e5 W5
  have Zn6 := Nat.le_trans Zn2 (Nat.le_of_eq W5.size.symm)
  have Fposition_7 := Fposition_1.other W5 (Or.inr (slot_ne (Or.inl (hw _ (List.mem_of_getElem? (i := 29) rfl))) (Or.inl (hw _ (List.mem_of_getElem? (i := 31) rfl))) (by decide) (t := .int) (t' := .int) (by decide) (by decide)))
  have Et_7 := Et_3.wr W5
  have Kp8 := Kp4.wr W5 (Or.inl (List.mem_of_getElem? (i := 0) rfl))
  have N5 := Fr.snoc X5 N1 gt
  have Fbit_5 := Fb_3.same W5
  refine own_retV X5 hx hlk hret (hb hby d4_20) (by decide) (by decide) ?_
  show own_Q4 Z oo p1 h0 n0 _ T5.heap _
  rw [e5]
  exact ⟨rfl, N5, Kp8, Fposition_7, Fbit_5⟩
theorem d5_0 : decode prog_14_method_2_code 0 = .ok (.aload_n 0, 1) := by decide +kernel
theorem d5_1 : decode prog_14_method_2_code 1 = .ok (.getfield 7, 3) := by decide +kernel
theorem d5_4 : decode prog_14_method_2_code 4 = .ok (.ireturn, 1) := by decide +kernel
def own_R5 : Room := { frames := 0, cells := 0, slots := 0, locals := 0 }
theorem own_ef5 (oo : Addr) (m : MethodId) : entryFrame m #[(.ref oo)] 1 = mkF m 0 #[.val (.ref oo)] [] := by first | (simp [entryFrame, mkF, argsToLocals, Value.category]; done) | rfl
def own_Q5 (Z : State) (oo : Addr) (w0 : Int32) (h0 : Heap) (n0 : Nat) (v : Option Value) (h : Heap) (L : List Loc) : Prop := v = some (.int w0) ∧ Fr n0 L ∧ h = h0
set_option maxRecDepth 65536 in
set_option maxHeartbeats 40000000 in
theorem rm5 (l : Launch) (Z : State) (a0 : Array Value) (hw : ∀ d ∈ tables_1, d.before a0 Z = true) (ws : List Jvm.Cond) (oo : Addr) (w0 : Int32) (h0 : Heap) (n0 : Nat) (Z0 : n0 ≤ h0.size) (Fp : Fld Z h0 oo "com/example/wireloom/wireloom/Cursor" "position" "I" (.int w0)) :
    MetFree l (⟨"com/example/wireloom/wireloom/Cursor", "position", "()I"⟩ : MethodName) (head1 (Jvm.Cond.code (⟨"com/example/wireloom/wireloom/Cursor", "position", "()I"⟩ : MethodName) prog_14_method_2_code 1 (some .int) :: ws) own_R5) (fun a U => a = #[(.ref oo)] ∧ Z.Warmed39 U.vm ∧ U.heap = h0) (fun _ _ _ _ _ => True) (fun _ U o U' => ∃ v L, o = .returned v ∧ own_Q5 Z oo w0 h0 n0 v U'.heap L ∧ FrameEnd U o U' L own_R5.cells own_R5.slots) := by
  refine own_met (Q := own_Q5 Z oo w0 h0 n0) (plainFor_of_name (by first | (simp [plainName, overriddenIn]; done) | decide +kernel)) (own_ef5 oo) ?_
  intro p e s m below meth c T0 hx hby hml hown hnm hret hlk hZ e0 X0
  have N0 := Fr.nil n0
  refine own_up (S' := T0.setTop (mkF m 1 #[.val (.ref oo)] [(.ref oo)])) (fun t stp => XS.aloadN X0.here hx rfl (hb hby d5_0) rfl rfl stp) ?_
  refine own_get X0 hx hZ hown (hw _ (List.mem_of_getElem? (i := 28) rfl)) Via.refl e0 Fp (g' := (mkF m 4 #[.val (.ref oo)] [(.int w0)])) (hb hby d5_1) rfl rfl rfl ?_
  intro T1 X1 e1
  refine own_retI X1 hx hlk hret (hb hby d5_4) (by decide) (by decide) ?_
  show own_Q5 Z oo w0 h0 n0 _ T1.heap _
  rw [e1]
  exact ⟨rfl, N0, rfl⟩
theorem d6_0 : decode prog_14_method_3_code 0 = .ok (.aload_n 0, 1) := by decide +kernel
theorem d6_1 : decode prog_14_method_3_code 1 = .ok (.getfield 13, 3) := by decide +kernel
theorem d6_4 : decode prog_14_method_3_code 4 = .ok (.ireturn, 1) := by decide +kernel
def own_R6 : Room := { frames := 0, cells := 0, slots := 0, locals := 0 }
theorem own_ef6 (oo : Addr) (m : MethodId) : entryFrame m #[(.ref oo)] 1 = mkF m 0 #[.val (.ref oo)] [] := by first | (simp [entryFrame, mkF, argsToLocals, Value.category]; done) | rfl
def own_Q6 (Z : State) (oo : Addr) (w0 : Int32) (h0 : Heap) (n0 : Nat) (v : Option Value) (h : Heap) (L : List Loc) : Prop := v = some (.int w0) ∧ Fr n0 L ∧ h = h0
set_option maxRecDepth 65536 in
set_option maxHeartbeats 40000000 in
theorem rm6 (l : Launch) (Z : State) (a0 : Array Value) (hw : ∀ d ∈ tables_1, d.before a0 Z = true) (ws : List Jvm.Cond) (oo : Addr) (w0 : Int32) (h0 : Heap) (n0 : Nat) (Z0 : n0 ≤ h0.size) (Fb : Fld Z h0 oo "com/example/wireloom/wireloom/Cursor" "bit" "I" (.int w0)) :
    MetFree l (⟨"com/example/wireloom/wireloom/Cursor", "bit", "()I"⟩ : MethodName) (head1 (Jvm.Cond.code (⟨"com/example/wireloom/wireloom/Cursor", "bit", "()I"⟩ : MethodName) prog_14_method_3_code 1 (some .int) :: ws) own_R6) (fun a U => a = #[(.ref oo)] ∧ Z.Warmed39 U.vm ∧ U.heap = h0) (fun _ _ _ _ _ => True) (fun _ U o U' => ∃ v L, o = .returned v ∧ own_Q6 Z oo w0 h0 n0 v U'.heap L ∧ FrameEnd U o U' L own_R6.cells own_R6.slots) := by
  refine own_met (Q := own_Q6 Z oo w0 h0 n0) (plainFor_of_name (by first | (simp [plainName, overriddenIn]; done) | decide +kernel)) (own_ef6 oo) ?_
  intro p e s m below meth c T0 hx hby hml hown hnm hret hlk hZ e0 X0
  have N0 := Fr.nil n0
  refine own_up (S' := T0.setTop (mkF m 1 #[.val (.ref oo)] [(.ref oo)])) (fun t stp => XS.aloadN X0.here hx rfl (hb hby d6_0) rfl rfl stp) ?_
  refine own_get X0 hx hZ hown (hw _ (List.mem_of_getElem? (i := 30) rfl)) Via.refl e0 Fb (g' := (mkF m 4 #[.val (.ref oo)] [(.int w0)])) (hb hby d6_1) rfl rfl rfl ?_
  intro T1 X1 e1
  refine own_retI X1 hx hlk hret (hb hby d6_4) (by decide) (by decide) ?_
  show own_Q6 Z oo w0 h0 n0 _ T1.heap _
  rw [e1]
  exact ⟨rfl, N0, rfl⟩
theorem d7_0 : decode prog_14_method_7_code 0 = .ok (.aload_n 0, 1) := by decide +kernel
theorem d7_1 : decode prog_14_method_7_code 1 = .ok (.dup, 1) := by decide +kernel
theorem d7_2 : decode prog_14_method_7_code 2 = .ok (.getfield 13, 3) := by decide +kernel
theorem d7_5 : decode prog_14_method_7_code 5 = .ok (.iload_n 1, 1) := by decide +kernel
theorem d7_6 : decode prog_14_method_7_code 6 = .ok (.iadd, 1) := by decide +kernel
theorem d7_7 : decode prog_14_method_7_code 7 = .ok (.putfield 13, 3) := by decide +kernel
theorem d7_10 : decode prog_14_method_7_code 10 = .ok (.aload_n 0, 1) := by decide +kernel
theorem d7_11 : decode prog_14_method_7_code 11 = .ok (.getfield 13, 3) := by decide +kernel
theorem d7_14 : decode prog_14_method_7_code 14 = .ok (.bipush 8, 2) := by decide +kernel
theorem d7_16 : decode prog_14_method_7_code 16 = .ok (.if_icmp .ne 18, 3) := by decide +kernel
theorem d7_19 : decode prog_14_method_7_code 19 = .ok (.aload_n 0, 1) := by decide +kernel
theorem d7_20 : decode prog_14_method_7_code 20 = .ok (.dup, 1) := by decide +kernel
theorem d7_21 : decode prog_14_method_7_code 21 = .ok (.getfield 7, 3) := by decide +kernel
theorem d7_24 : decode prog_14_method_7_code 24 = .ok (.iconst 1, 1) := by decide +kernel
theorem d7_25 : decode prog_14_method_7_code 25 = .ok (.iadd, 1) := by decide +kernel
theorem d7_26 : decode prog_14_method_7_code 26 = .ok (.putfield 7, 3) := by decide +kernel
theorem d7_29 : decode prog_14_method_7_code 29 = .ok (.aload_n 0, 1) := by decide +kernel
theorem d7_30 : decode prog_14_method_7_code 30 = .ok (.iconst 0, 1) := by decide +kernel
theorem d7_31 : decode prog_14_method_7_code 31 = .ok (.putfield 13, 3) := by decide +kernel
theorem d7_34 : decode prog_14_method_7_code 34 = .ok (.return_, 1) := by decide +kernel
def own_R7 : Room := { frames := 0, cells := 0, slots := 0, locals := 0 }
theorem own_ef7 (oo : Addr) (p1 : Int32) (m : MethodId) : entryFrame m #[(.ref oo), (.int p1)] 2 = mkF m 0 #[.val (.ref oo), .val (.int p1)] [] := by first | (simp [entryFrame, mkF, argsToLocals, Value.category]; done) | rfl
def own_Q7 (Z : State) (oo : Addr) (p1 : Int32) (w0 : Int32) (w1 : Int32) (h0 : Heap) (n0 : Nat) (v : Option Value) (h : Heap) (L : List Loc) : Prop := v = none ∧ Fr n0 L ∧ Keep h0 h [oo] ∧ Fld Z h oo "com/example/wireloom/wireloom/Cursor" "position" "I" (.int (if (w1 + p1) = (8 : Int32) then (w0 + (1 : Int32)) else w0)) ∧ Fld Z h oo "com/example/wireloom/wireloom/Cursor" "bit" "I" (.int (if (w1 + p1) = (8 : Int32) then (0 : Int32) else (w1 + p1)))
set_option maxRecDepth 65536 in
set_option maxHeartbeats 40000000 in
theorem rm7 (l : Launch) (Z : State) (a0 : Array Value) (hw : ∀ d ∈ tables_1, d.before a0 Z = true) (ws : List Jvm.Cond) (oo : Addr) (p1 : Int32) (w0 : Int32) (w1 : Int32) (h0 : Heap) (n0 : Nat) (Z0 : n0 ≤ h0.size) (Fp : Fld Z h0 oo "com/example/wireloom/wireloom/Cursor" "position" "I" (.int w0)) (Fb : Fld Z h0 oo "com/example/wireloom/wireloom/Cursor" "bit" "I" (.int w1)) (Et : Exa Z h0 oo "com/example/wireloom/wireloom/CursorAdvanceBitsPinLaw") (gt : n0 ≤ oo) :
    MetFree l (⟨"com/example/wireloom/wireloom/Cursor", "advanceBits", "(I)V"⟩ : MethodName) (head1 (Jvm.Cond.code (⟨"com/example/wireloom/wireloom/Cursor", "advanceBits", "(I)V"⟩ : MethodName) prog_14_method_7_code 2 none :: ws) own_R7) (fun a U => a = #[(.ref oo), (.int p1)] ∧ Z.Warmed39 U.vm ∧ U.heap = h0) (fun _ _ _ _ _ => True) (fun _ U o U' => ∃ v L, o = .returned v ∧ own_Q7 Z oo p1 w0 w1 h0 n0 v U'.heap L ∧ FrameEnd U o U' L own_R7.cells own_R7.slots) := by
  refine own_met (Q := own_Q7 Z oo p1 w0 w1 h0 n0) (plainFor_of_name (by first | (simp [plainName, overriddenIn]; done) | decide +kernel)) (own_ef7 oo p1) ?_
  intro p e s m below meth c T0 hx hby hml hown hnm hret hlk hZ e0 X0
  have N0 := Fr.nil n0
  refine own_up (S' := T0.setTop (mkF m 1 #[.val (.ref oo), .val (.int p1)] [(.ref oo)])) (fun t stp => XS.aloadN X0.here hx rfl (hb hby d7_0) rfl rfl stp) ?_
  refine own_up (S' := T0.setTop (mkF m 2 #[.val (.ref oo), .val (.int p1)] [(.ref oo), (.ref oo)])) (fun t stp => XS.dup X0.here hx rfl (hb hby d7_1) rfl rfl stp) ?_
  refine own_get X0 hx hZ hown (hw _ (List.mem_of_getElem? (i := 30) rfl)) Via.refl e0 Fb (g' := (mkF m 5 #[.val (.ref oo), .val (.int p1)] [(.int w1), (.ref oo)])) (hb hby d7_2) rfl rfl rfl ?_
  intro T1 X1 e1
  refine own_up (S' := T1.setTop (mkF m 6 #[.val (.ref oo), .val (.int p1)] [(.int p1), (.int w1), (.ref oo)])) (fun t stp => XS.iloadN X1.here hx rfl (hb hby d7_5) rfl stp) ?_
  refine own_up (S' := T1.setTop (mkF m 7 #[.val (.ref oo), .val (.int p1)] [(.int (w1 + p1)), (.ref oo)])) (fun t stp => XS.iadd X1.here hx rfl (hb hby d7_6) rfl stp) ?_
  refine own_put X1 hx hZ .int hown (hw _ (List.mem_of_getElem? (i := 30) rfl)) Via.refl e1 Fb Et (Or.inl (hw _ (List.mem_of_getElem? (i := 31) rfl))) (hw _ (List.mem_of_getElem? (i := 7) rfl)) (by decide) (v' := (.int (w1 + p1))) (rfl) (rfl) (g' := (mkF m 10 #[.val (.ref oo), .val (.int p1)] [])) (hb hby d7_7) rfl rfl rfl ?_
  intro T2 h2 X2 e2 W2
  have Zn3 := Nat.le_trans Z0 (Nat.le_of_eq W2.size.symm)
  have Fp_4 := Fp.other W2 (Or.inr (slot_ne (Or.inl (hw _ (List.mem_of_getElem? (i := 29) rfl))) (Or.inl (hw _ (List.mem_of_getElem? (i := 31) rfl))) (by decide) (t := .int) (t' := .int) (by decide) (by decide)))
  have Et_4 := Et.wr W2
  have Kp5 := (Keep.refl h0 [oo]).wr W2 (Or.inl (List.mem_of_getElem? (i := 0) rfl))
  have N2 := Fr.snoc X2 N0 gt
  have Fbit_2 := Fb.same W2
  refine own_up (S' := T2.setTop (mkF m 11 #[.val (.ref oo), .val (.int p1)] [(.ref oo)])) (fun t stp => XS.aloadN X2.here hx rfl (hb hby d7_10) rfl rfl stp) ?_
  refine own_get X2 hx hZ hown (hw _ (List.mem_of_getElem? (i := 30) rfl)) Via.refl e2 Fbit_2 (g' := (mkF m 14 #[.val (.ref oo), .val (.int p1)] [(.int (w1 + p1))])) (hb hby d7_11) rfl rfl rfl ?_
  intro T6 X6 e6
  refine own_up (S' := T6.setTop (mkF m 16 #[.val (.ref oo), .val (.int p1)] [(.int (8 : Int32)), (.int (w1 + p1))])) (fun t stp => XT.bipushV X6.here hx rfl (8 : Int32) (hb hby d7_14) rfl stp) ?_
  by_cases hc16_7 : (w1 + p1) = (8 : Int32)
  · have ihc16_7 : (w1 + p1).toInt = 8 := own_ieq hc16_7
    refine own_up (S' := T6.setTop (mkF m 19 #[.val (.ref oo), .val (.int p1)] [])) (fun t stp => XS.icmpNo X6.here hx rfl (hb hby d7_16) rfl (XT.ii_ne_f hc16_7) stp) ?_
    refine own_up (S' := T6.setTop (mkF m 20 #[.val (.ref oo), .val (.int p1)] [(.ref oo)])) (fun t stp => XS.aloadN X6.here hx rfl (hb hby d7_19) rfl rfl stp) ?_
    refine own_up (S' := T6.setTop (mkF m 21 #[.val (.ref oo), .val (.int p1)] [(.ref oo), (.ref oo)])) (fun t stp => XS.dup X6.here hx rfl (hb hby d7_20) rfl rfl stp) ?_
    refine own_get X6 hx hZ hown (hw _ (List.mem_of_getElem? (i := 28) rfl)) Via.refl e6 Fp_4 (g' := (mkF m 24 #[.val (.ref oo), .val (.int p1)] [(.int w0), (.ref oo)])) (hb hby d7_21) rfl rfl rfl ?_
    intro T8 X8 e8
    refine own_up (S' := T8.setTop (mkF m 25 #[.val (.ref oo), .val (.int p1)] [(.int (1 : Int32)), (.int w0), (.ref oo)])) (fun t stp => XT.iconstV X8.here hx rfl (1 : Int32) (hb hby d7_24) rfl stp) ?_
    refine own_up (S' := T8.setTop (mkF m 26 #[.val (.ref oo), .val (.int p1)] [(.int (w0 + (1 : Int32))), (.ref oo)])) (fun t stp => XS.iadd X8.here hx rfl (hb hby d7_25) rfl stp) ?_
    refine own_put X8 hx hZ .int hown (hw _ (List.mem_of_getElem? (i := 28) rfl)) Via.refl e8 Fp_4 Et_4 (Or.inl (hw _ (List.mem_of_getElem? (i := 29) rfl))) (hw _ (List.mem_of_getElem? (i := 7) rfl)) (by decide) (v' := (.int (w0 + (1 : Int32)))) (rfl) (rfl) (g' := (mkF m 29 #[.val (.ref oo), .val (.int p1)] [])) (hb hby d7_26) rfl rfl rfl ?_
    intro T9 h9 X9 e9 W9
    have Zn10 := Nat.le_trans Zn3 (Nat.le_of_eq W9.size.symm)
    have Fbit_11 := Fbit_2.other W9 (Or.inr (slot_ne (Or.inl (hw _ (List.mem_of_getElem? (i := 31) rfl))) (Or.inl (hw _ (List.mem_of_getElem? (i := 29) rfl))) (by decide) (t := .int) (t' := .int) (by decide) (by decide)))
    have Et_11 := Et_4.wr W9
    have Kp12 := Kp5.wr W9 (Or.inl (List.mem_of_getElem? (i := 0) rfl))
    have N9 := Fr.snoc X9 N2 gt
    have Fposition_9 := Fp_4.same W9
    refine own_up (S' := T9.setTop (mkF m 30 #[.val (.ref oo), .val (.int p1)] [(.ref oo)])) (fun t stp => XS.aloadN X9.here hx rfl (hb hby d7_29) rfl rfl stp) ?_
    refine own_up (S' := T9.setTop (mkF m 31 #[.val (.ref oo), .val (.int p1)] [(.int (0 : Int32)), (.ref oo)])) (fun t stp => XT.iconstV X9.here hx rfl (0 : Int32) (hb hby d7_30) rfl stp) ?_
    refine own_put X9 hx hZ .int hown (hw _ (List.mem_of_getElem? (i := 30) rfl)) Via.refl e9 Fbit_11 Et_11 (Or.inl (hw _ (List.mem_of_getElem? (i := 31) rfl))) (hw _ (List.mem_of_getElem? (i := 7) rfl)) (by decide) (v' := (.int (0 : Int32))) (rfl) (rfl) (g' := (mkF m 34 #[.val (.ref oo), .val (.int p1)] [])) (hb hby d7_31) rfl rfl rfl ?_
    intro T13 h13 X13 e13 W13
    have Zn14 := Nat.le_trans Zn10 (Nat.le_of_eq W13.size.symm)
    have Fposition_15 := Fposition_9.other W13 (Or.inr (slot_ne (Or.inl (hw _ (List.mem_of_getElem? (i := 29) rfl))) (Or.inl (hw _ (List.mem_of_getElem? (i := 31) rfl))) (by decide) (t := .int) (t' := .int) (by decide) (by decide)))
    have Et_15 := Et_11.wr W13
    have Kp16 := Kp12.wr W13 (Or.inl (List.mem_of_getElem? (i := 0) rfl))
    have N13 := Fr.snoc X13 N9 gt
    have Fbit_13 := Fbit_11.same W13
    refine own_retV X13 hx hlk hret (hb hby d7_34) (by decide) (by decide) ?_
    show own_Q7 Z oo p1 w0 w1 h0 n0 _ T13.heap _
    rw [e13]
    exact ⟨rfl, N13, Kp16, (by rw [if_pos hc16_7]; exact Fposition_15), (by rw [if_pos hc16_7]; exact Fbit_13)⟩
  · have ihc16_7 : (w1 + p1).toInt ≠ 8 := own_ine hc16_7
    refine own_up (S' := T6.setTop (mkF m 34 #[.val (.ref oo), .val (.int p1)] [])) (fun t stp => XS.icmpYes X6.here hx rfl (pc0 := 16) (pc' := 34) rfl (hb hby d7_16) rfl (XT.ii_ne_t hc16_7) (by decide) (by decide) stp) ?_
    refine own_retV X6 hx hlk hret (hb hby d7_34) (by decide) (by decide) ?_
    show own_Q7 Z oo p1 w0 w1 h0 n0 _ T6.heap _
    rw [e6]
    exact ⟨rfl, N2, Kp5, (by rw [if_neg hc16_7]; exact Fp_4), (by rw [if_neg hc16_7]; exact Fbit_2)⟩
theorem d8_0 : decode prog_14_method_4_code 0 = .ok (.ldc2_w 16, 3) := by decide +kernel
theorem d8_3 : decode prog_14_method_4_code 3 = .ok (.aload_n 0, 1) := by decide +kernel
theorem d8_4 : decode prog_14_method_4_code 4 = .ok (.getfield 7, 3) := by decide +kernel
theorem d8_7 : decode prog_14_method_4_code 7 = .ok (.i2l, 1) := by decide +kernel
theorem d8_8 : decode prog_14_method_4_code 8 = .ok (.lmul, 1) := by decide +kernel
theorem d8_9 : decode prog_14_method_4_code 9 = .ok (.aload_n 0, 1) := by decide +kernel
theorem d8_10 : decode prog_14_method_4_code 10 = .ok (.getfield 13, 3) := by decide +kernel
theorem d8_13 : decode prog_14_method_4_code 13 = .ok (.i2l, 1) := by decide +kernel
theorem d8_14 : decode prog_14_method_4_code 14 = .ok (.ladd, 1) := by decide +kernel
theorem d8_15 : decode prog_14_method_4_code 15 = .ok (.lreturn, 1) := by decide +kernel
def own_R8 : Room := { frames := 0, cells := 0, slots := 0, locals := 0 }
theorem own_ef8 (oo : Addr) (m : MethodId) : entryFrame m #[(.ref oo)] 1 = mkF m 0 #[.val (.ref oo)] [] := by first | (simp [entryFrame, mkF, argsToLocals, Value.category]; done) | rfl
def own_Q8 (Z : State) (oo : Addr) (w0 : Int32) (w1 : Int32) (h0 : Heap) (n0 : Nat) (v : Option Value) (h : Heap) (L : List Loc) : Prop := v = some (.long (((8 : Int64) * w0.toInt64) + w1.toInt64)) ∧ Fr n0 L ∧ h = h0
set_option maxRecDepth 65536 in
set_option maxHeartbeats 40000000 in
theorem rm8 (l : Launch) (Z : State) (a0 : Array Value) (hw : ∀ d ∈ tables_1, d.before a0 Z = true) (ws : List Jvm.Cond) (oo : Addr) (w0 : Int32) (w1 : Int32) (h0 : Heap) (n0 : Nat) (Z0 : n0 ≤ h0.size) (Fp : Fld Z h0 oo "com/example/wireloom/wireloom/Cursor" "position" "I" (.int w0)) (Fb : Fld Z h0 oo "com/example/wireloom/wireloom/Cursor" "bit" "I" (.int w1)) :
    MetFree l (⟨"com/example/wireloom/wireloom/Cursor", "bitOffset", "()J"⟩ : MethodName) (head1 (Jvm.Cond.code (⟨"com/example/wireloom/wireloom/Cursor", "bitOffset", "()J"⟩ : MethodName) prog_14_method_4_code 1 (some .long) :: ws) own_R8) (fun a U => a = #[(.ref oo)] ∧ Z.Warmed39 U.vm ∧ U.heap = h0) (fun _ _ _ _ _ => True) (fun _ U o U' => ∃ v L, o = .returned v ∧ own_Q8 Z oo w0 w1 h0 n0 v U'.heap L ∧ FrameEnd U o U' L own_R8.cells own_R8.slots) := by
  refine own_met (Q := own_Q8 Z oo w0 w1 h0 n0) (plainFor_of_name (by first | (simp [plainName, overriddenIn]; done) | decide +kernel)) (own_ef8 oo) ?_
  intro p e s m below meth c T0 hx hby hml hown hnm hret hlk hZ e0 X0
  have N0 := Fr.nil n0
  refine own_up (S' := T0.setTop (mkF m 3 #[.val (.ref oo)] [(.long (8 : Int64))])) (fun t stp => X0.ldc2J hx hown (mvT hZ (hw _ (List.mem_of_getElem? (i := 27) rfl))) rfl (hb hby d8_0) stp) ?_
  refine own_up (S' := T0.setTop (mkF m 4 #[.val (.ref oo)] [(.ref oo), (.long (8 : Int64))])) (fun t stp => XS.aloadN X0.here hx rfl (hb hby d8_3) rfl rfl stp) ?_
  refine own_get X0 hx hZ hown (hw _ (List.mem_of_getElem? (i := 28) rfl)) Via.refl e0 Fp (g' := (mkF m 7 #[.val (.ref oo)] [(.int w0), (.long (8 : Int64))])) (hb hby d8_4) rfl rfl rfl ?_
  intro T1 X1 e1
  refine own_up (S' := T1.setTop (mkF m 8 #[.val (.ref oo)] [(.long w0.toInt64), (.long (8 : Int64))])) (fun t stp => XT.i2l X1.here hx rfl (hb hby d8_7) rfl stp) ?_
  refine own_up (S' := T1.setTop (mkF m 9 #[.val (.ref oo)] [(.long ((8 : Int64) * w0.toInt64))])) (fun t stp => XT.lmul X1.here hx rfl (hb hby d8_8) rfl stp) ?_
  refine own_up (S' := T1.setTop (mkF m 10 #[.val (.ref oo)] [(.ref oo), (.long ((8 : Int64) * w0.toInt64))])) (fun t stp => XS.aloadN X1.here hx rfl (hb hby d8_9) rfl rfl stp) ?_
  refine own_get X1 hx hZ hown (hw _ (List.mem_of_getElem? (i := 30) rfl)) Via.refl e1 Fb (g' := (mkF m 13 #[.val (.ref oo)] [(.int w1), (.long ((8 : Int64) * w0.toInt64))])) (hb hby d8_10) rfl rfl rfl ?_
  intro T2 X2 e2
  refine own_up (S' := T2.setTop (mkF m 14 #[.val (.ref oo)] [(.long w1.toInt64), (.long ((8 : Int64) * w0.toInt64))])) (fun t stp => XT.i2l X2.here hx rfl (hb hby d8_13) rfl stp) ?_
  refine own_up (S' := T2.setTop (mkF m 15 #[.val (.ref oo)] [(.long (((8 : Int64) * w0.toInt64) + w1.toInt64))])) (fun t stp => XT.ladd X2.here hx rfl (hb hby d8_14) rfl stp) ?_
  refine own_retL X2 hx hlk hret (hb hby d8_15) (by decide) (by decide) ?_
  show own_Q8 Z oo w0 w1 h0 n0 _ T2.heap _
  rw [e2]
  exact ⟨rfl, N0, rfl⟩
theorem own_ef0 (x1 : Int32) (y1 : Int32) (z1 : Int32) (m : MethodId) : entryFrame m #[(.int x1), (.int y1), (.int z1)] maxLocals = mkF m 0 #[.val (.int x1), .val (.int y1), .val (.int z1), .unset, .unset, .unset, .unset, .unset, .unset, .unset] [] := by first | (simp [entryFrame, mkF, argsToLocals, Value.category, maxLocals]; done) | rfl
def own_Q0 (Z : State) (x1 : Int32) (y1 : Int32) (z1 : Int32)  (h0 : Heap) (n0 : Nat) (v : Option Value) (h : Heap) (L : List Loc) : Prop := v = some (.int 1) ∧ Fr n0 L
set_option maxRecDepth 65536 in
set_option maxHeartbeats 40000000 in
theorem rm0 (l : Launch) (Z : State) (a0 : Array Value) (hw : ∀ d ∈ tables_1, d.before a0 Z = true) (ws : List Jvm.Cond) (x1 : Int32) (y1 : Int32) (z1 : Int32)  (h0 : Heap) (n0 : Nat) (Z0 : n0 ≤ h0.size)  :
    MetFree l x (head1 (Jvm.Cond.code x code maxLocals ret :: ws) room_1) (fun a U => a = #[(.int x1), (.int y1), (.int z1)] ∧ Z.Warmed39 U.vm ∧ U.heap = h0) (fun _ _ _ _ _ => True) (fun _ U o U' => ∃ v L, o = .returned v ∧ own_Q0 Z x1 y1 z1 h0 n0 v U'.heap L ∧ FrameEnd U o U' L room_1.cells room_1.slots) := by
  refine own_met (Q := own_Q0 Z x1 y1 z1 h0 n0) (plainFor_of_name (by first | (simp [plainName, overriddenIn, x]; done) | decide +kernel)) (own_ef0 x1 y1 z1) ?_
  intro p e s m below meth c T0 hx hby hml hown hnm hret hlk hZ e0 X0
  have hown : s.vm.findClass "com/example/wireloom/wireloom/CursorAdvanceBitsPinLaw" = some m.cls := hown
  have N0 := Fr.nil n0
  refine own_up (S' := T0.setTop (mkF m 1 #[.val (.int x1), .val (.int y1), .val (.int z1), .unset, .unset, .unset, .unset, .unset, .unset, .unset] [(.int x1)])) (fun t stp => XS.iloadN X0.here hx rfl (hb hby at_0) rfl stp) ?_
  refine own_up (S' := T0.setTop (mkF m 3 #[.val (.int x1), .val (.int y1), .val (.int z1), .unset, .unset, .unset, .unset, .unset, .unset, .unset] [(.int (2147483647 : Int32)), (.int x1)])) (fun t stp => X0.ldcI hx hown (mvT hZ (hw _ (List.mem_of_getElem? (i := 0) rfl))) rfl (hb hby at_1) stp) ?_
  refine own_up (S' := T0.setTop (mkF m 4 #[.val (.int x1), .val (.int y1), .val (.int z1), .unset, .unset, .unset, .unset, .unset, .unset, .unset] [(.int (x1 &&& (2147483647 : Int32)))])) (fun t stp => XS.iand X0.here hx rfl (hb hby at_3) rfl stp) ?_
  refine own_up (S' := T0.setTop (mkF m 6 #[.val (.int x1), .val (.int y1), .val (.int z1), .unset, .unset, .unset, .unset, .unset, .unset, .unset] [(.int (2147483646 : Int32)), (.int (x1 &&& (2147483647 : Int32)))])) (fun t stp => X0.ldcI hx hown (mvT hZ (hw _ (List.mem_of_getElem? (i := 1) rfl))) rfl (hb hby at_4) stp) ?_
  refine own_callS X0 hx hZ hown (hw _ (List.mem_of_getElem? (i := 2) rfl)) (hw _ (List.mem_of_getElem? (i := 3) rfl)) (hw _ (List.mem_of_getElem? (i := 4) rfl)) (hw _ (List.mem_of_getElem? (i := 5) rfl)) (by decide) e0 (rm1 l Z a0 hw [] (x1 &&& (2147483647 : Int32)) (2147483646 : Int32) h0 n0 Z0 ) 0 [(.int (x1 &&& (2147483647 : Int32))), (.int (2147483646 : Int32))] [] (hb hby at_6) (lenOf own_pd1 rfl) (by decide) (by decide) (by decide) (by decide) rfl (by rw [hml]; rfl) rfl (by show 2 * 0 + _ ≤ _; exact Nat.le_of_eq rfl) rfl ?_
  intro T1 L1 r1 X1 q1
  obtain ⟨pp, rfl, hr_pp, M1, e1⟩ := q1
  have N1 := Fr.app N0 M1
  show own_Ends p e below s (own_Q0 Z x1 y1 z1 h0 n0) room_1.cells room_1.slots (T1.setTop (mkF m 9 #[.val (.int x1), .val (.int y1), .val (.int z1), .unset, .unset, .unset, .unset, .unset, .unset, .unset] [(.int pp)]))
  obtain ⟨hpp0, hpp1⟩ := own_pp hr_pp
  refine own_up (S' := T1.setTop (mkF m 10 #[.val (.int x1), .val (.int y1), .val (.int z1), .val (.int pp), .unset, .unset, .unset, .unset, .unset, .unset] [])) (fun t stp => XS.istoreN X1.here hx rfl (hb hby at_9) rfl (l' := #[.val (.int x1), .val (.int y1), .val (.int z1), .val (.int pp), .unset, .unset, .unset, .unset, .unset, .unset]) rfl stp) ?_
  refine own_up (S' := T1.setTop (mkF m 11 #[.val (.int x1), .val (.int y1), .val (.int z1), .val (.int pp), .unset, .unset, .unset, .unset, .unset, .unset] [(.int y1)])) (fun t stp => XS.iloadN X1.here hx rfl (hb hby at_10) rfl stp) ?_
  refine own_up (S' := T1.setTop (mkF m 13 #[.val (.int x1), .val (.int y1), .val (.int z1), .val (.int pp), .unset, .unset, .unset, .unset, .unset, .unset] [(.int (7 : Int32)), (.int y1)])) (fun t stp => XT.bipushV X1.here hx rfl (7 : Int32) (hb hby at_11) rfl stp) ?_
  refine own_up (S' := T1.setTop (mkF m 14 #[.val (.int x1), .val (.int y1), .val (.int z1), .val (.int pp), .unset, .unset, .unset, .unset, .unset, .unset] [(.int (y1 &&& (7 : Int32)))])) (fun t stp => XS.iand X1.here hx rfl (hb hby at_13) rfl stp) ?_
  obtain ⟨bb, h_bb⟩ : ∃ z : Int32, z = (y1 &&& (7 : Int32)) := ⟨_, rfl⟩
  rw [← h_bb]
  refine own_up (S' := T1.setTop (mkF m 16 #[.val (.int x1), .val (.int y1), .val (.int z1), .val (.int pp), .val (.int bb), .unset, .unset, .unset, .unset, .unset] [])) (fun t stp => XS.istore X1.here hx rfl (hb hby at_14) rfl (l' := #[.val (.int x1), .val (.int y1), .val (.int z1), .val (.int pp), .val (.int bb), .unset, .unset, .unset, .unset, .unset]) rfl stp) ?_
  obtain ⟨hbb0, hbb1⟩ := own_bb h_bb
  refine own_up (S' := T1.setTop (mkF m 17 #[.val (.int x1), .val (.int y1), .val (.int z1), .val (.int pp), .val (.int bb), .unset, .unset, .unset, .unset, .unset] [(.int z1)])) (fun t stp => XS.iloadN X1.here hx rfl (hb hby at_16) rfl stp) ?_
  refine own_up (S' := T1.setTop (mkF m 19 #[.val (.int x1), .val (.int y1), .val (.int z1), .val (.int pp), .val (.int bb), .unset, .unset, .unset, .unset, .unset] [(.int (2147483647 : Int32)), (.int z1)])) (fun t stp => X1.ldcI hx hown (mvT hZ (hw _ (List.mem_of_getElem? (i := 0) rfl))) rfl (hb hby at_17) stp) ?_
  refine own_up (S' := T1.setTop (mkF m 20 #[.val (.int x1), .val (.int y1), .val (.int z1), .val (.int pp), .val (.int bb), .unset, .unset, .unset, .unset, .unset] [(.int (z1 &&& (2147483647 : Int32)))])) (fun t stp => XS.iand X1.here hx rfl (hb hby at_19) rfl stp) ?_
  refine own_up (S' := T1.setTop (mkF m 22 #[.val (.int x1), .val (.int y1), .val (.int z1), .val (.int pp), .val (.int bb), .unset, .unset, .unset, .unset, .unset] [(.int (9 : Int32)), (.int (z1 &&& (2147483647 : Int32)))])) (fun t stp => XT.bipushV X1.here hx rfl (9 : Int32) (hb hby at_20) rfl stp) ?_
  refine own_up (S' := T1.setTop (mkF m 24 #[.val (.int x1), .val (.int y1), .val (.int z1), .val (.int pp), .val (.int bb), .unset, .unset, .unset, .unset, .unset] [(.int bb), (.int (9 : Int32)), (.int (z1 &&& (2147483647 : Int32)))])) (fun t stp => XS.iload X1.here hx rfl (hb hby at_22) rfl stp) ?_
  refine own_up (S' := T1.setTop (mkF m 25 #[.val (.int x1), .val (.int y1), .val (.int z1), .val (.int pp), .val (.int bb), .unset, .unset, .unset, .unset, .unset] [(.int ((9 : Int32) - bb)), (.int (z1 &&& (2147483647 : Int32)))])) (fun t stp => XS.isub X1.here hx rfl (hb hby at_24) rfl stp) ?_
  refine own_up (S' := T1.setTop (mkF m 26 #[.val (.int x1), .val (.int y1), .val (.int z1), .val (.int pp), .val (.int bb), .unset, .unset, .unset, .unset, .unset] [(.int ((z1 &&& (2147483647 : Int32)) % ((9 : Int32) - bb)))])) (fun t stp => iremM X1 hx rfl (hb hby at_25) rfl (own_nz h_bb) stp) ?_
  obtain ⟨cnt, h_cnt⟩ : ∃ z : Int32, z = ((z1 &&& (2147483647 : Int32)) % ((9 : Int32) - bb)) := ⟨_, rfl⟩
  rw [← h_cnt]
  refine own_up (S' := T1.setTop (mkF m 28 #[.val (.int x1), .val (.int y1), .val (.int z1), .val (.int pp), .val (.int bb), .val (.int cnt), .unset, .unset, .unset, .unset] [])) (fun t stp => XS.istore X1.here hx rfl (hb hby at_26) rfl (l' := #[.val (.int x1), .val (.int y1), .val (.int z1), .val (.int pp), .val (.int bb), .val (.int cnt), .unset, .unset, .unset, .unset]) rfl stp) ?_
  obtain ⟨hcn0, hcn1⟩ := own_cn h_cnt hbb0 hbb1
  refine own_new X1 hx hZ hown (hw _ (List.mem_of_getElem? (i := 6) rfl)) (hw _ (List.mem_of_getElem? (i := 7) rfl)) (hw _ (List.mem_of_getElem? (i := 8) rfl)) e1 rfl (hb hby at_28) (by decide) (by decide) ?_
  intro T2 h2 ob hb2 X2 e2 E2 A2 D2
  have g_ob : n0 ≤ ob := Nat.le_trans Z0 (Nat.le_of_eq hb2.symm)
  have Zn3 := Nat.le_trans Z0 E2.1
  have Fposition_ob : Fld Z h2 ob "com/example/wireloom/wireloom/Cursor" "position" "I" (.int (0 : Int32)) := D2 (Or.inl (hw _ (List.mem_of_getElem? (i := 29) rfl))) (ty := .int) (by decide)
  have Fbit_ob : Fld Z h2 ob "com/example/wireloom/wireloom/Cursor" "bit" "I" (.int (0 : Int32)) := D2 (Or.inl (hw _ (List.mem_of_getElem? (i := 31) rfl))) (ty := .int) (by decide)
  show own_Ends p e below s (own_Q0 Z x1 y1 z1 h0 n0) room_1.cells room_1.slots (T2.setTop (mkF m 31 #[.val (.int x1), .val (.int y1), .val (.int z1), .val (.int pp), .val (.int bb), .val (.int cnt), .unset, .unset, .unset, .unset] [(.ref ob)]))
  refine own_up (S' := T2.setTop (mkF m 32 #[.val (.int x1), .val (.int y1), .val (.int z1), .val (.int pp), .val (.int bb), .val (.int cnt), .unset, .unset, .unset, .unset] [(.ref ob), (.ref ob)])) (fun t stp => XS.dup X2.here hx rfl (hb hby at_31) rfl rfl stp) ?_
  refine own_callI X2 hx hZ rfl hown (hw _ (List.mem_of_getElem? (i := 9) rfl)) (hw _ (List.mem_of_getElem? (i := 10) rfl)) (hw _ (List.mem_of_getElem? (i := 8) rfl)) (hw _ (List.mem_of_getElem? (i := 11) rfl)) (by decide) e2 (rm3 l Z a0 hw [] ob h2 n0 Zn3 ) 1 ob [] [(.ref ob)] (hb hby at_32) (lenOf own_pd0 rfl) (by decide) (by decide) (by decide) (by decide) rfl (by rw [hml]; rfl) rfl (by show 2 * 0 + _ ≤ _; exact Nat.le_of_eq rfl) rfl ?_
  intro T5 L5 r5 X5 q5
  obtain ⟨rfl, M5, e5⟩ := q5
  have N5 := Fr.app N1 M5
  show own_Ends p e below s (own_Q0 Z x1 y1 z1 h0 n0) room_1.cells room_1.slots (T5.setTop (mkF m 35 #[.val (.int x1), .val (.int y1), .val (.int z1), .val (.int pp), .val (.int bb), .val (.int cnt), .unset, .unset, .unset, .unset] [(.ref ob)]))
  refine own_up (S' := T5.setTop (mkF m 37 #[.val (.int x1), .val (.int y1), .val (.int z1), .val (.int pp), .val (.int bb), .val (.int cnt), .val (.ref ob), .unset, .unset, .unset] [])) (fun t stp => XS.astore X5.here hx rfl (hb hby at_35) rfl rfl (l' := #[.val (.int x1), .val (.int y1), .val (.int z1), .val (.int pp), .val (.int bb), .val (.int cnt), .val (.ref ob), .unset, .unset, .unset]) rfl stp) ?_
  refine own_up (S' := T5.setTop (mkF m 39 #[.val (.int x1), .val (.int y1), .val (.int z1), .val (.int pp), .val (.int bb), .val (.int cnt), .val (.ref ob), .unset, .unset, .unset] [(.ref ob)])) (fun t stp => XS.aload X5.here hx rfl (hb hby at_37) rfl rfl stp) ?_
  refine own_up (S' := T5.setTop (mkF m 42 #[.val (.int x1), .val (.int y1), .val (.int z1), .val (.int pp), .val (.int bb), .val (.int cnt), .val (.ref ob), .unset, .unset, .unset] [(.long (8 : Int64)), (.ref ob)])) (fun t stp => X5.ldc2J hx hown (mvT hZ (hw _ (List.mem_of_getElem? (i := 20) rfl))) rfl (hb hby at_39) stp) ?_
  refine own_up (S' := T5.setTop (mkF m 43 #[.val (.int x1), .val (.int y1), .val (.int z1), .val (.int pp), .val (.int bb), .val (.int cnt), .val (.ref ob), .unset, .unset, .unset] [(.int pp), (.long (8 : Int64)), (.ref ob)])) (fun t stp => XS.iloadN X5.here hx rfl (hb hby at_42) rfl stp) ?_
  refine own_up (S' := T5.setTop (mkF m 44 #[.val (.int x1), .val (.int y1), .val (.int z1), .val (.int pp), .val (.int bb), .val (.int cnt), .val (.ref ob), .unset, .unset, .unset] [(.long pp.toInt64), (.long (8 : Int64)), (.ref ob)])) (fun t stp => XT.i2l X5.here hx rfl (hb hby at_43) rfl stp) ?_
  refine own_up (S' := T5.setTop (mkF m 45 #[.val (.int x1), .val (.int y1), .val (.int z1), .val (.int pp), .val (.int bb), .val (.int cnt), .val (.ref ob), .unset, .unset, .unset] [(.long ((8 : Int64) * pp.toInt64)), (.ref ob)])) (fun t stp => XT.lmul X5.here hx rfl (hb hby at_44) rfl stp) ?_
  refine own_up (S' := T5.setTop (mkF m 47 #[.val (.int x1), .val (.int y1), .val (.int z1), .val (.int pp), .val (.int bb), .val (.int cnt), .val (.ref ob), .unset, .unset, .unset] [(.int bb), (.long ((8 : Int64) * pp.toInt64)), (.ref ob)])) (fun t stp => XS.iload X5.here hx rfl (hb hby at_45) rfl stp) ?_
  refine own_up (S' := T5.setTop (mkF m 48 #[.val (.int x1), .val (.int y1), .val (.int z1), .val (.int pp), .val (.int bb), .val (.int cnt), .val (.ref ob), .unset, .unset, .unset] [(.long bb.toInt64), (.long ((8 : Int64) * pp.toInt64)), (.ref ob)])) (fun t stp => XT.i2l X5.here hx rfl (hb hby at_47) rfl stp) ?_
  refine own_up (S' := T5.setTop (mkF m 49 #[.val (.int x1), .val (.int y1), .val (.int z1), .val (.int pp), .val (.int bb), .val (.int cnt), .val (.ref ob), .unset, .unset, .unset] [(.long (((8 : Int64) * pp.toInt64) + bb.toInt64)), (.ref ob)])) (fun t stp => XT.ladd X5.here hx rfl (hb hby at_48) rfl stp) ?_
  refine own_callU X5 hx hZ hown (x := (⟨"com/example/wireloom/wireloom/CursorAdvanceBitsPinLaw", "moveTo", "(J)V"⟩ : MethodName)) (y := (⟨"com/example/wireloom/wireloom/Cursor", "moveTo", "(J)V"⟩ : MethodName)) (hw _ (List.mem_of_getElem? (i := 21) rfl)) (hw _ (List.mem_of_getElem? (i := 22) rfl)) (hw _ (List.mem_of_getElem? (i := 23) rfl)) (hw _ (List.mem_of_getElem? (i := 25) rfl)) (hw _ (List.mem_of_getElem? (i := 24) rfl)) (hw _ (List.mem_of_getElem? (i := 15) rfl)) (hw _ (List.mem_of_getElem? (i := 26) rfl)) (by decide) e5 (rm4 l Z a0 hw [] ob (((8 : Int64) * pp.toInt64) + bb.toInt64) h2 n0 Zn3 Fposition_ob Fbit_ob A2 g_ob) 0 A2 [(.long (((8 : Int64) * pp.toInt64) + bb.toInt64))] [] (hb hby at_49) (lenOf own_pd2 rfl) (by decide) (by decide) (by decide) (by decide) rfl (by rw [hml]; rfl) rfl (by show 2 * 0 + _ ≤ _; exact Nat.le_of_eq rfl) rfl ?_
  intro T6 L6 r6 X6 q6
  obtain ⟨rfl, M6, K6, G6a_6, G6b_6⟩ := q6
  have N6 := Fr.app N5 M6
  have Zn7 := Nat.le_trans Zn3 K6.1
  have A2_8 := A2.keep K6
  show own_Ends p e below s (own_Q0 Z x1 y1 z1 h0 n0) room_1.cells room_1.slots (T6.setTop (mkF m 52 #[.val (.int x1), .val (.int y1), .val (.int z1), .val (.int pp), .val (.int bb), .val (.int cnt), .val (.ref ob), .unset, .unset, .unset] []))
  have hmv := own_mv hpp0 hpp1 hbb0 hbb1
  have Rs9 : Fld Z T6.heap ob "com/example/wireloom/wireloom/Cursor" "position" "I" (.int pp) := (by have q := G6a_6; rw [hmv.1] at q; exact q)
  have Rs10 : Fld Z T6.heap ob "com/example/wireloom/wireloom/Cursor" "bit" "I" (.int bb) := (by have q := G6b_6; rw [hmv.2] at q; exact q)
  refine own_up (S' := T6.setTop (mkF m 54 #[.val (.int x1), .val (.int y1), .val (.int z1), .val (.int pp), .val (.int bb), .val (.int cnt), .val (.ref ob), .unset, .unset, .unset] [(.ref ob)])) (fun t stp => XS.aload X6.here hx rfl (hb hby at_52) rfl rfl stp) ?_
  refine own_callU X6 hx hZ hown (x := (⟨"com/example/wireloom/wireloom/CursorAdvanceBitsPinLaw", "position", "()I"⟩ : MethodName)) (y := (⟨"com/example/wireloom/wireloom/Cursor", "position", "()I"⟩ : MethodName)) (hw _ (List.mem_of_getElem? (i := 32) rfl)) (hw _ (List.mem_of_getElem? (i := 33) rfl)) (hw _ (List.mem_of_getElem? (i := 34) rfl)) (hw _ (List.mem_of_getElem? (i := 36) rfl)) (hw _ (List.mem_of_getElem? (i := 35) rfl)) (hw _ (List.mem_of_getElem? (i := 15) rfl)) (hw _ (List.mem_of_getElem? (i := 37) rfl)) (by decide) rfl (rm5 l Z a0 hw [] ob pp T6.heap n0 Zn7 Rs9) 0 A2_8 [] [] (hb hby at_54) (lenOf own_pd3 rfl) (by decide) (by decide) (by decide) (by decide) rfl (by rw [hml]; rfl) rfl (by show 2 * 0 + _ ≤ _; exact Nat.le_of_eq rfl) rfl ?_
  intro T11 L11 r11 X11 q11
  obtain ⟨rfl, M11, e11⟩ := q11
  have N11 := Fr.app N6 M11
  show own_Ends p e below s (own_Q0 Z x1 y1 z1 h0 n0) room_1.cells room_1.slots (T11.setTop (mkF m 57 #[.val (.int x1), .val (.int y1), .val (.int z1), .val (.int pp), .val (.int bb), .val (.int cnt), .val (.ref ob), .unset, .unset, .unset] [(.int pp)]))
  refine own_up (S' := T11.setTop (mkF m 58 #[.val (.int x1), .val (.int y1), .val (.int z1), .val (.int pp), .val (.int bb), .val (.int cnt), .val (.ref ob), .unset, .unset, .unset] [(.int pp), (.int pp)])) (fun t stp => XS.iloadN X11.here hx rfl (hb hby at_57) rfl stp) ?_
  have hc58_12 : pp = pp := rfl
  have ihc58_12 : pp.toInt = pp.toInt := own_ieq hc58_12
  refine own_up (S' := T11.setTop (mkF m 61 #[.val (.int x1), .val (.int y1), .val (.int z1), .val (.int pp), .val (.int bb), .val (.int cnt), .val (.ref ob), .unset, .unset, .unset] [])) (fun t stp => XS.icmpNo X11.here hx rfl (hb hby at_58) rfl (XT.ii_ne_f hc58_12) stp) ?_
  refine own_up (S' := T11.setTop (mkF m 63 #[.val (.int x1), .val (.int y1), .val (.int z1), .val (.int pp), .val (.int bb), .val (.int cnt), .val (.ref ob), .unset, .unset, .unset] [(.ref ob)])) (fun t stp => XS.aload X11.here hx rfl (hb hby at_61) rfl rfl stp) ?_
  refine own_callU X11 hx hZ hown (x := (⟨"com/example/wireloom/wireloom/CursorAdvanceBitsPinLaw", "bit", "()I"⟩ : MethodName)) (y := (⟨"com/example/wireloom/wireloom/Cursor", "bit", "()I"⟩ : MethodName)) (hw _ (List.mem_of_getElem? (i := 38) rfl)) (hw _ (List.mem_of_getElem? (i := 39) rfl)) (hw _ (List.mem_of_getElem? (i := 40) rfl)) (hw _ (List.mem_of_getElem? (i := 42) rfl)) (hw _ (List.mem_of_getElem? (i := 41) rfl)) (hw _ (List.mem_of_getElem? (i := 15) rfl)) (hw _ (List.mem_of_getElem? (i := 43) rfl)) (by decide) e11 (rm6 l Z a0 hw [] ob bb T6.heap n0 Zn7 Rs10) 0 A2_8 [] [] (hb hby at_63) (lenOf own_pd3 rfl) (by decide) (by decide) (by decide) (by decide) rfl (by rw [hml]; rfl) rfl (by show 2 * 0 + _ ≤ _; exact Nat.le_of_eq rfl) rfl ?_
  intro T13 L13 r13 X13 q13
  obtain ⟨rfl, M13, e13⟩ := q13
  have N13 := Fr.app N11 M13
  show own_Ends p e below s (own_Q0 Z x1 y1 z1 h0 n0) room_1.cells room_1.slots (T13.setTop (mkF m 66 #[.val (.int x1), .val (.int y1), .val (.int z1), .val (.int pp), .val (.int bb), .val (.int cnt), .val (.ref ob), .unset, .unset, .unset] [(.int bb)]))
  refine own_up (S' := T13.setTop (mkF m 68 #[.val (.int x1), .val (.int y1), .val (.int z1), .val (.int pp), .val (.int bb), .val (.int cnt), .val (.ref ob), .unset, .unset, .unset] [(.int bb), (.int bb)])) (fun t stp => XS.iload X13.here hx rfl (hb hby at_66) rfl stp) ?_
  have hc68_14 : bb = bb := rfl
  have ihc68_14 : bb.toInt = bb.toInt := own_ieq hc68_14
  refine own_up (S' := T13.setTop (mkF m 73 #[.val (.int x1), .val (.int y1), .val (.int z1), .val (.int pp), .val (.int bb), .val (.int cnt), .val (.ref ob), .unset, .unset, .unset] [])) (fun t stp => XS.icmpYes X13.here hx rfl (pc0 := 68) (pc' := 73) rfl (hb hby at_68) rfl (XT.ii_eq_t hc68_14) (by decide) (by decide) stp) ?_
  refine own_up (S' := T13.setTop (mkF m 75 #[.val (.int x1), .val (.int y1), .val (.int z1), .val (.int pp), .val (.int bb), .val (.int cnt), .val (.ref ob), .unset, .unset, .unset] [(.ref ob)])) (fun t stp => XS.aload X13.here hx rfl (hb hby at_73) rfl rfl stp) ?_
  refine own_up (S' := T13.setTop (mkF m 77 #[.val (.int x1), .val (.int y1), .val (.int z1), .val (.int pp), .val (.int bb), .val (.int cnt), .val (.ref ob), .unset, .unset, .unset] [(.int cnt), (.ref ob)])) (fun t stp => XS.iload X13.here hx rfl (hb hby at_75) rfl stp) ?_
  refine own_callU X13 hx hZ hown (x := (⟨"com/example/wireloom/wireloom/CursorAdvanceBitsPinLaw", "advanceBits", "(I)V"⟩ : MethodName)) (y := (⟨"com/example/wireloom/wireloom/Cursor", "advanceBits", "(I)V"⟩ : MethodName)) (hw _ (List.mem_of_getElem? (i := 44) rfl)) (hw _ (List.mem_of_getElem? (i := 45) rfl)) (hw _ (List.mem_of_getElem? (i := 46) rfl)) (hw _ (List.mem_of_getElem? (i := 48) rfl)) (hw _ (List.mem_of_getElem? (i := 47) rfl)) (hw _ (List.mem_of_getElem? (i := 15) rfl)) (hw _ (List.mem_of_getElem? (i := 49) rfl)) (by decide) e13 (rm7 l Z a0 hw [] ob cnt pp bb T6.heap n0 Zn7 Rs9 Rs10 A2_8 g_ob) 0 A2_8 [(.int cnt)] [] (hb hby at_77) (lenOf own_pd4 rfl) (by decide) (by decide) (by decide) (by decide) rfl (by rw [hml]; rfl) rfl (by show 2 * 0 + _ ≤ _; exact Nat.le_of_eq rfl) rfl ?_
  intro T15 L15 r15 X15 q15
  obtain ⟨rfl, M15, K15, G15a_15, G15b_15⟩ := q15
  have N15 := Fr.app N13 M15
  have Zn16 := Nat.le_trans Zn7 K15.1
  have A2_17 := A2_8.keep K15
  show own_Ends p e below s (own_Q0 Z x1 y1 z1 h0 n0) room_1.cells room_1.slots (T15.setTop (mkF m 80 #[.val (.int x1), .val (.int y1), .val (.int z1), .val (.int pp), .val (.int bb), .val (.int cnt), .val (.ref ob), .unset, .unset, .unset] []))
  refine own_up (S' := T15.setTop (mkF m 82 #[.val (.int x1), .val (.int y1), .val (.int z1), .val (.int pp), .val (.int bb), .val (.int cnt), .val (.ref ob), .unset, .unset, .unset] [(.int bb)])) (fun t stp => XS.iload X15.here hx rfl (hb hby at_80) rfl stp) ?_
  refine own_up (S' := T15.setTop (mkF m 84 #[.val (.int x1), .val (.int y1), .val (.int z1), .val (.int pp), .val (.int bb), .val (.int cnt), .val (.ref ob), .unset, .unset, .unset] [(.int cnt), (.int bb)])) (fun t stp => XS.iload X15.here hx rfl (hb hby at_82) rfl stp) ?_
  refine own_up (S' := T15.setTop (mkF m 85 #[.val (.int x1), .val (.int y1), .val (.int z1), .val (.int pp), .val (.int bb), .val (.int cnt), .val (.ref ob), .unset, .unset, .unset] [(.int (bb + cnt))])) (fun t stp => XS.iadd X15.here hx rfl (hb hby at_84) rfl stp) ?_
  obtain ⟨nb, h_nb⟩ : ∃ z : Int32, z = (bb + cnt) := ⟨_, rfl⟩
  rw [← h_nb]
  refine own_up (S' := T15.setTop (mkF m 87 #[.val (.int x1), .val (.int y1), .val (.int z1), .val (.int pp), .val (.int bb), .val (.int cnt), .val (.ref ob), .val (.int nb), .unset, .unset] [])) (fun t stp => XS.istore X15.here hx rfl (hb hby at_85) rfl (l' := #[.val (.int x1), .val (.int y1), .val (.int z1), .val (.int pp), .val (.int bb), .val (.int cnt), .val (.ref ob), .val (.int nb), .unset, .unset]) rfl stp) ?_
  have hnb : nb.toInt = bb.toInt + cnt.toInt := by rw [h_nb]; exact own_nb hbb0 hbb1 hcn0 hcn1
  refine own_up (S' := T15.setTop (mkF m 89 #[.val (.int x1), .val (.int y1), .val (.int z1), .val (.int pp), .val (.int bb), .val (.int cnt), .val (.ref ob), .val (.int nb), .unset, .unset] [(.int nb)])) (fun t stp => XS.iload X15.here hx rfl (hb hby at_87) rfl stp) ?_
  refine own_up (S' := T15.setTop (mkF m 91 #[.val (.int x1), .val (.int y1), .val (.int z1), .val (.int pp), .val (.int bb), .val (.int cnt), .val (.ref ob), .val (.int nb), .unset, .unset] [(.int (8 : Int32)), (.int nb)])) (fun t stp => XT.bipushV X15.here hx rfl (8 : Int32) (hb hby at_89) rfl stp) ?_
  by_cases hc91_18 : nb = (8 : Int32)
  · have ihc91_18 : nb.toInt = 8 := own_ieq hc91_18
    refine own_up (S' := T15.setTop (mkF m 94 #[.val (.int x1), .val (.int y1), .val (.int z1), .val (.int pp), .val (.int bb), .val (.int cnt), .val (.ref ob), .val (.int nb), .unset, .unset] [])) (fun t stp => XS.icmpNo X15.here hx rfl (hb hby at_91) rfl (XT.ii_ne_f hc91_18) stp) ?_
    refine own_up (S' := T15.setTop (mkF m 95 #[.val (.int x1), .val (.int y1), .val (.int z1), .val (.int pp), .val (.int bb), .val (.int cnt), .val (.ref ob), .val (.int nb), .unset, .unset] [(.int pp)])) (fun t stp => XS.iloadN X15.here hx rfl (hb hby at_94) rfl stp) ?_
    refine own_up (S' := T15.setTop (mkF m 96 #[.val (.int x1), .val (.int y1), .val (.int z1), .val (.int pp), .val (.int bb), .val (.int cnt), .val (.ref ob), .val (.int nb), .unset, .unset] [(.int (1 : Int32)), (.int pp)])) (fun t stp => XT.iconstV X15.here hx rfl (1 : Int32) (hb hby at_95) rfl stp) ?_
    refine own_up (S' := T15.setTop (mkF m 97 #[.val (.int x1), .val (.int y1), .val (.int z1), .val (.int pp), .val (.int bb), .val (.int cnt), .val (.ref ob), .val (.int nb), .unset, .unset] [(.int (pp + (1 : Int32)))])) (fun t stp => XS.iadd X15.here hx rfl (hb hby at_96) rfl stp) ?_
    obtain ⟨ep, h_ep⟩ : ∃ z : Int32, z = (pp + (1 : Int32)) := ⟨_, rfl⟩
    rw [← h_ep]
    refine own_up (S' := T15.setTop (mkF m 99 #[.val (.int x1), .val (.int y1), .val (.int z1), .val (.int pp), .val (.int bb), .val (.int cnt), .val (.ref ob), .val (.int nb), .val (.int ep), .unset] [])) (fun t stp => XS.istore X15.here hx rfl (hb hby at_97) rfl (l' := #[.val (.int x1), .val (.int y1), .val (.int z1), .val (.int pp), .val (.int bb), .val (.int cnt), .val (.ref ob), .val (.int nb), .val (.int ep), .unset]) rfl stp) ?_
    refine own_up (S' := T15.setTop (mkF m 100 #[.val (.int x1), .val (.int y1), .val (.int z1), .val (.int pp), .val (.int bb), .val (.int cnt), .val (.ref ob), .val (.int nb), .val (.int ep), .unset] [(.int (0 : Int32))])) (fun t stp => XT.iconstV X15.here hx rfl (0 : Int32) (hb hby at_99) rfl stp) ?_
    refine own_up (S' := T15.setTop (mkF m 102 #[.val (.int x1), .val (.int y1), .val (.int z1), .val (.int pp), .val (.int bb), .val (.int cnt), .val (.ref ob), .val (.int nb), .val (.int ep), .val (.int (0 : Int32))] [])) (fun t stp => XS.istore X15.here hx rfl (hb hby at_100) rfl (l' := #[.val (.int x1), .val (.int y1), .val (.int z1), .val (.int pp), .val (.int bb), .val (.int cnt), .val (.ref ob), .val (.int nb), .val (.int ep), .val (.int (0 : Int32))]) rfl stp) ?_
    refine own_up (S' := T15.setTop (mkF m 112 #[.val (.int x1), .val (.int y1), .val (.int z1), .val (.int pp), .val (.int bb), .val (.int cnt), .val (.ref ob), .val (.int nb), .val (.int ep), .val (.int (0 : Int32))] [])) (fun t stp => XS.goto X15.here hx rfl (pc0 := 102) (pc' := 112) rfl (hb hby at_102) (by decide) (by decide) stp) ?_
    refine own_up (S' := T15.setTop (mkF m 114 #[.val (.int x1), .val (.int y1), .val (.int z1), .val (.int pp), .val (.int bb), .val (.int cnt), .val (.ref ob), .val (.int nb), .val (.int ep), .val (.int (0 : Int32))] [(.ref ob)])) (fun t stp => XS.aload X15.here hx rfl (hb hby at_112) rfl rfl stp) ?_
    refine own_callU X15 hx hZ hown (x := (⟨"com/example/wireloom/wireloom/CursorAdvanceBitsPinLaw", "position", "()I"⟩ : MethodName)) (y := (⟨"com/example/wireloom/wireloom/Cursor", "position", "()I"⟩ : MethodName)) (hw _ (List.mem_of_getElem? (i := 32) rfl)) (hw _ (List.mem_of_getElem? (i := 33) rfl)) (hw _ (List.mem_of_getElem? (i := 34) rfl)) (hw _ (List.mem_of_getElem? (i := 36) rfl)) (hw _ (List.mem_of_getElem? (i := 35) rfl)) (hw _ (List.mem_of_getElem? (i := 15) rfl)) (hw _ (List.mem_of_getElem? (i := 37) rfl)) (by decide) rfl (rm5 l Z a0 hw [] ob (if (bb + cnt) = (8 : Int32) then (pp + (1 : Int32)) else pp) T15.heap n0 Zn16 G15a_15) 0 A2_17 [] [] (hb hby at_114) (lenOf own_pd3 rfl) (by decide) (by decide) (by decide) (by decide) rfl (by rw [hml]; rfl) rfl (by show 2 * 0 + _ ≤ _; exact Nat.le_of_eq rfl) rfl ?_
    intro T19 L19 r19 X19 q19
    obtain ⟨rfl, M19, e19⟩ := q19
    have N19 := Fr.app N15 M19
    show own_Ends p e below s (own_Q0 Z x1 y1 z1 h0 n0) room_1.cells room_1.slots (T19.setTop (mkF m 117 #[.val (.int x1), .val (.int y1), .val (.int z1), .val (.int pp), .val (.int bb), .val (.int cnt), .val (.ref ob), .val (.int nb), .val (.int ep), .val (.int (0 : Int32))] [(.int (if (bb + cnt) = (8 : Int32) then (pp + (1 : Int32)) else pp))]))
    refine own_up (S' := T19.setTop (mkF m 119 #[.val (.int x1), .val (.int y1), .val (.int z1), .val (.int pp), .val (.int bb), .val (.int cnt), .val (.ref ob), .val (.int nb), .val (.int ep), .val (.int (0 : Int32))] [(.int ep), (.int (if (bb + cnt) = (8 : Int32) then (pp + (1 : Int32)) else pp))])) (fun t stp => XS.iload X19.here hx rfl (hb hby at_117) rfl stp) ?_
    have hc119_20 : (if (bb + cnt) = (8 : Int32) then (pp + (1 : Int32)) else pp) = ep := by rw [← h_nb, if_pos hc91_18]; rw [h_ep]
    have ihc119_20 : (if (bb + cnt) = (8 : Int32) then (pp + (1 : Int32)) else pp).toInt = ep.toInt := own_ieq hc119_20
    refine own_up (S' := T19.setTop (mkF m 122 #[.val (.int x1), .val (.int y1), .val (.int z1), .val (.int pp), .val (.int bb), .val (.int cnt), .val (.ref ob), .val (.int nb), .val (.int ep), .val (.int (0 : Int32))] [])) (fun t stp => XS.icmpNo X19.here hx rfl (hb hby at_119) rfl (XT.ii_ne_f hc119_20) stp) ?_
    refine own_up (S' := T19.setTop (mkF m 124 #[.val (.int x1), .val (.int y1), .val (.int z1), .val (.int pp), .val (.int bb), .val (.int cnt), .val (.ref ob), .val (.int nb), .val (.int ep), .val (.int (0 : Int32))] [(.ref ob)])) (fun t stp => XS.aload X19.here hx rfl (hb hby at_122) rfl rfl stp) ?_
    refine own_callU X19 hx hZ hown (x := (⟨"com/example/wireloom/wireloom/CursorAdvanceBitsPinLaw", "bit", "()I"⟩ : MethodName)) (y := (⟨"com/example/wireloom/wireloom/Cursor", "bit", "()I"⟩ : MethodName)) (hw _ (List.mem_of_getElem? (i := 38) rfl)) (hw _ (List.mem_of_getElem? (i := 39) rfl)) (hw _ (List.mem_of_getElem? (i := 40) rfl)) (hw _ (List.mem_of_getElem? (i := 42) rfl)) (hw _ (List.mem_of_getElem? (i := 41) rfl)) (hw _ (List.mem_of_getElem? (i := 15) rfl)) (hw _ (List.mem_of_getElem? (i := 43) rfl)) (by decide) e19 (rm6 l Z a0 hw [] ob (if (bb + cnt) = (8 : Int32) then (0 : Int32) else (bb + cnt)) T15.heap n0 Zn16 G15b_15) 0 A2_17 [] [] (hb hby at_124) (lenOf own_pd3 rfl) (by decide) (by decide) (by decide) (by decide) rfl (by rw [hml]; rfl) rfl (by show 2 * 0 + _ ≤ _; exact Nat.le_of_eq rfl) rfl ?_
    intro T21 L21 r21 X21 q21
    obtain ⟨rfl, M21, e21⟩ := q21
    have N21 := Fr.app N19 M21
    show own_Ends p e below s (own_Q0 Z x1 y1 z1 h0 n0) room_1.cells room_1.slots (T21.setTop (mkF m 127 #[.val (.int x1), .val (.int y1), .val (.int z1), .val (.int pp), .val (.int bb), .val (.int cnt), .val (.ref ob), .val (.int nb), .val (.int ep), .val (.int (0 : Int32))] [(.int (if (bb + cnt) = (8 : Int32) then (0 : Int32) else (bb + cnt)))]))
    refine own_up (S' := T21.setTop (mkF m 129 #[.val (.int x1), .val (.int y1), .val (.int z1), .val (.int pp), .val (.int bb), .val (.int cnt), .val (.ref ob), .val (.int nb), .val (.int ep), .val (.int (0 : Int32))] [(.int (0 : Int32)), (.int (if (bb + cnt) = (8 : Int32) then (0 : Int32) else (bb + cnt)))])) (fun t stp => XS.iload X21.here hx rfl (hb hby at_127) rfl stp) ?_
    have hc129_22 : (if (bb + cnt) = (8 : Int32) then (0 : Int32) else (bb + cnt)) = (0 : Int32) := by rw [← h_nb, if_pos hc91_18]
    have ihc129_22 : (if (bb + cnt) = (8 : Int32) then (0 : Int32) else (bb + cnt)).toInt = 0 := own_ieq hc129_22
    refine own_up (S' := T21.setTop (mkF m 132 #[.val (.int x1), .val (.int y1), .val (.int z1), .val (.int pp), .val (.int bb), .val (.int cnt), .val (.ref ob), .val (.int nb), .val (.int ep), .val (.int (0 : Int32))] [])) (fun t stp => XS.icmpNo X21.here hx rfl (hb hby at_129) rfl (XT.ii_ne_f hc129_22) stp) ?_
    refine own_up (S' := T21.setTop (mkF m 134 #[.val (.int x1), .val (.int y1), .val (.int z1), .val (.int pp), .val (.int bb), .val (.int cnt), .val (.ref ob), .val (.int nb), .val (.int ep), .val (.int (0 : Int32))] [(.ref ob)])) (fun t stp => XS.aload X21.here hx rfl (hb hby at_132) rfl rfl stp) ?_
    refine own_callU X21 hx hZ hown (x := (⟨"com/example/wireloom/wireloom/CursorAdvanceBitsPinLaw", "bitOffset", "()J"⟩ : MethodName)) (y := (⟨"com/example/wireloom/wireloom/Cursor", "bitOffset", "()J"⟩ : MethodName)) (hw _ (List.mem_of_getElem? (i := 50) rfl)) (hw _ (List.mem_of_getElem? (i := 51) rfl)) (hw _ (List.mem_of_getElem? (i := 52) rfl)) (hw _ (List.mem_of_getElem? (i := 54) rfl)) (hw _ (List.mem_of_getElem? (i := 53) rfl)) (hw _ (List.mem_of_getElem? (i := 15) rfl)) (hw _ (List.mem_of_getElem? (i := 55) rfl)) (by decide) e21 (rm8 l Z a0 hw [] ob (if (bb + cnt) = (8 : Int32) then (pp + (1 : Int32)) else pp) (if (bb + cnt) = (8 : Int32) then (0 : Int32) else (bb + cnt)) T15.heap n0 Zn16 G15a_15 G15b_15) 0 A2_17 [] [] (hb hby at_134) (lenOf own_pd5 rfl) (by decide) (by decide) (by decide) (by decide) rfl (by rw [hml]; rfl) rfl (by show 2 * 0 + _ ≤ _; exact Nat.le_of_eq rfl) rfl ?_
    intro T23 L23 r23 X23 q23
    obtain ⟨rfl, M23, e23⟩ := q23
    have N23 := Fr.app N21 M23
    show own_Ends p e below s (own_Q0 Z x1 y1 z1 h0 n0) room_1.cells room_1.slots (T23.setTop (mkF m 137 #[.val (.int x1), .val (.int y1), .val (.int z1), .val (.int pp), .val (.int bb), .val (.int cnt), .val (.ref ob), .val (.int nb), .val (.int ep), .val (.int (0 : Int32))] [(.long (((8 : Int64) * (if (bb + cnt) = (8 : Int32) then (pp + (1 : Int32)) else pp).toInt64) + (if (bb + cnt) = (8 : Int32) then (0 : Int32) else (bb + cnt)).toInt64))]))
    refine own_up (S' := T23.setTop (mkF m 140 #[.val (.int x1), .val (.int y1), .val (.int z1), .val (.int pp), .val (.int bb), .val (.int cnt), .val (.ref ob), .val (.int nb), .val (.int ep), .val (.int (0 : Int32))] [(.long (8 : Int64)), (.long (((8 : Int64) * (if (bb + cnt) = (8 : Int32) then (pp + (1 : Int32)) else pp).toInt64) + (if (bb + cnt) = (8 : Int32) then (0 : Int32) else (bb + cnt)).toInt64))])) (fun t stp => X23.ldc2J hx hown (mvT hZ (hw _ (List.mem_of_getElem? (i := 20) rfl))) rfl (hb hby at_137) stp) ?_
    refine own_up (S' := T23.setTop (mkF m 141 #[.val (.int x1), .val (.int y1), .val (.int z1), .val (.int pp), .val (.int bb), .val (.int cnt), .val (.ref ob), .val (.int nb), .val (.int ep), .val (.int (0 : Int32))] [(.int pp), (.long (8 : Int64)), (.long (((8 : Int64) * (if (bb + cnt) = (8 : Int32) then (pp + (1 : Int32)) else pp).toInt64) + (if (bb + cnt) = (8 : Int32) then (0 : Int32) else (bb + cnt)).toInt64))])) (fun t stp => XS.iloadN X23.here hx rfl (hb hby at_140) rfl stp) ?_
    refine own_up (S' := T23.setTop (mkF m 142 #[.val (.int x1), .val (.int y1), .val (.int z1), .val (.int pp), .val (.int bb), .val (.int cnt), .val (.ref ob), .val (.int nb), .val (.int ep), .val (.int (0 : Int32))] [(.long pp.toInt64), (.long (8 : Int64)), (.long (((8 : Int64) * (if (bb + cnt) = (8 : Int32) then (pp + (1 : Int32)) else pp).toInt64) + (if (bb + cnt) = (8 : Int32) then (0 : Int32) else (bb + cnt)).toInt64))])) (fun t stp => XT.i2l X23.here hx rfl (hb hby at_141) rfl stp) ?_
    refine own_up (S' := T23.setTop (mkF m 143 #[.val (.int x1), .val (.int y1), .val (.int z1), .val (.int pp), .val (.int bb), .val (.int cnt), .val (.ref ob), .val (.int nb), .val (.int ep), .val (.int (0 : Int32))] [(.long ((8 : Int64) * pp.toInt64)), (.long (((8 : Int64) * (if (bb + cnt) = (8 : Int32) then (pp + (1 : Int32)) else pp).toInt64) + (if (bb + cnt) = (8 : Int32) then (0 : Int32) else (bb + cnt)).toInt64))])) (fun t stp => XT.lmul X23.here hx rfl (hb hby at_142) rfl stp) ?_
    refine own_up (S' := T23.setTop (mkF m 145 #[.val (.int x1), .val (.int y1), .val (.int z1), .val (.int pp), .val (.int bb), .val (.int cnt), .val (.ref ob), .val (.int nb), .val (.int ep), .val (.int (0 : Int32))] [(.int bb), (.long ((8 : Int64) * pp.toInt64)), (.long (((8 : Int64) * (if (bb + cnt) = (8 : Int32) then (pp + (1 : Int32)) else pp).toInt64) + (if (bb + cnt) = (8 : Int32) then (0 : Int32) else (bb + cnt)).toInt64))])) (fun t stp => XS.iload X23.here hx rfl (hb hby at_143) rfl stp) ?_
    refine own_up (S' := T23.setTop (mkF m 146 #[.val (.int x1), .val (.int y1), .val (.int z1), .val (.int pp), .val (.int bb), .val (.int cnt), .val (.ref ob), .val (.int nb), .val (.int ep), .val (.int (0 : Int32))] [(.long bb.toInt64), (.long ((8 : Int64) * pp.toInt64)), (.long (((8 : Int64) * (if (bb + cnt) = (8 : Int32) then (pp + (1 : Int32)) else pp).toInt64) + (if (bb + cnt) = (8 : Int32) then (0 : Int32) else (bb + cnt)).toInt64))])) (fun t stp => XT.i2l X23.here hx rfl (hb hby at_145) rfl stp) ?_
    refine own_up (S' := T23.setTop (mkF m 147 #[.val (.int x1), .val (.int y1), .val (.int z1), .val (.int pp), .val (.int bb), .val (.int cnt), .val (.ref ob), .val (.int nb), .val (.int ep), .val (.int (0 : Int32))] [(.long (((8 : Int64) * pp.toInt64) + bb.toInt64)), (.long (((8 : Int64) * (if (bb + cnt) = (8 : Int32) then (pp + (1 : Int32)) else pp).toInt64) + (if (bb + cnt) = (8 : Int32) then (0 : Int32) else (bb + cnt)).toInt64))])) (fun t stp => XT.ladd X23.here hx rfl (hb hby at_146) rfl stp) ?_
    refine own_up (S' := T23.setTop (mkF m 149 #[.val (.int x1), .val (.int y1), .val (.int z1), .val (.int pp), .val (.int bb), .val (.int cnt), .val (.ref ob), .val (.int nb), .val (.int ep), .val (.int (0 : Int32))] [(.int cnt), (.long (((8 : Int64) * pp.toInt64) + bb.toInt64)), (.long (((8 : Int64) * (if (bb + cnt) = (8 : Int32) then (pp + (1 : Int32)) else pp).toInt64) + (if (bb + cnt) = (8 : Int32) then (0 : Int32) else (bb + cnt)).toInt64))])) (fun t stp => XS.iload X23.here hx rfl (hb hby at_147) rfl stp) ?_
    refine own_up (S' := T23.setTop (mkF m 150 #[.val (.int x1), .val (.int y1), .val (.int z1), .val (.int pp), .val (.int bb), .val (.int cnt), .val (.ref ob), .val (.int nb), .val (.int ep), .val (.int (0 : Int32))] [(.long cnt.toInt64), (.long (((8 : Int64) * pp.toInt64) + bb.toInt64)), (.long (((8 : Int64) * (if (bb + cnt) = (8 : Int32) then (pp + (1 : Int32)) else pp).toInt64) + (if (bb + cnt) = (8 : Int32) then (0 : Int32) else (bb + cnt)).toInt64))])) (fun t stp => XT.i2l X23.here hx rfl (hb hby at_149) rfl stp) ?_
    refine own_up (S' := T23.setTop (mkF m 151 #[.val (.int x1), .val (.int y1), .val (.int z1), .val (.int pp), .val (.int bb), .val (.int cnt), .val (.ref ob), .val (.int nb), .val (.int ep), .val (.int (0 : Int32))] [(.long ((((8 : Int64) * pp.toInt64) + bb.toInt64) + cnt.toInt64)), (.long (((8 : Int64) * (if (bb + cnt) = (8 : Int32) then (pp + (1 : Int32)) else pp).toInt64) + (if (bb + cnt) = (8 : Int32) then (0 : Int32) else (bb + cnt)).toInt64))])) (fun t stp => XT.ladd X23.here hx rfl (hb hby at_150) rfl stp) ?_
    refine own_up (S' := T23.setTop (mkF m 152 #[.val (.int x1), .val (.int y1), .val (.int z1), .val (.int pp), .val (.int bb), .val (.int cnt), .val (.ref ob), .val (.int nb), .val (.int ep), .val (.int (0 : Int32))] [(.int (XT.cmpL (((8 : Int64) * (if (bb + cnt) = (8 : Int32) then (pp + (1 : Int32)) else pp).toInt64) + (if (bb + cnt) = (8 : Int32) then (0 : Int32) else (bb + cnt)).toInt64) ((((8 : Int64) * pp.toInt64) + bb.toInt64) + cnt.toInt64)))])) (fun t stp => XT.lcmp X23.here hx rfl (hb hby at_151) rfl stp) ?_
    have ihc152_24 : (((8 : Int64) * (if (bb + cnt) = (8 : Int32) then (pp + (1 : Int32)) else pp).toInt64) + (if (bb + cnt) = (8 : Int32) then (0 : Int32) else (bb + cnt)).toInt64).toInt = ((((8 : Int64) * pp.toInt64) + bb.toInt64) + cnt.toInt64).toInt := by rw [← h_nb, if_pos hc91_18, if_pos hc91_18]; exact own_off8 hpp0 hpp1 hbb0 hbb1 hcn0 hcn1 (by omega)
    have hc152_24 : (((8 : Int64) * (if (bb + cnt) = (8 : Int32) then (pp + (1 : Int32)) else pp).toInt64) + (if (bb + cnt) = (8 : Int32) then (0 : Int32) else (bb + cnt)).toInt64) = ((((8 : Int64) * pp.toInt64) + bb.toInt64) + cnt.toInt64) := own_leq_of ihc152_24
    refine own_up (S' := T23.setTop (mkF m 155 #[.val (.int x1), .val (.int y1), .val (.int z1), .val (.int pp), .val (.int bb), .val (.int cnt), .val (.ref ob), .val (.int nb), .val (.int ep), .val (.int (0 : Int32))] [])) (fun t stp => XS.ifNo X23.here hx rfl (hb hby at_152) rfl (XT.ll_ne_f hc152_24) stp) ?_
    refine own_up (S' := T23.setTop (mkF m 156 #[.val (.int x1), .val (.int y1), .val (.int z1), .val (.int pp), .val (.int bb), .val (.int cnt), .val (.ref ob), .val (.int nb), .val (.int ep), .val (.int (0 : Int32))] [(.int (1 : Int32))])) (fun t stp => XT.iconstV X23.here hx rfl (1 : Int32) (hb hby at_155) rfl stp) ?_
    refine own_up (S' := T23.setTop (mkF m 160 #[.val (.int x1), .val (.int y1), .val (.int z1), .val (.int pp), .val (.int bb), .val (.int cnt), .val (.ref ob), .val (.int nb), .val (.int ep), .val (.int (0 : Int32))] [(.int (1 : Int32))])) (fun t stp => XS.goto X23.here hx rfl (pc0 := 156) (pc' := 160) rfl (hb hby at_156) (by decide) (by decide) stp) ?_
    refine own_retN X23 hx hlk (t := .boolean) hret (by simp) (z' := (1 : Int32)) rfl (hb hby at_160) (by decide) (by decide) ?_
    show own_Q0 Z x1 y1 z1 h0 n0 _ T23.heap _
    rw [e23]
    exact ⟨rfl, N23⟩
  · have ihc91_18 : nb.toInt ≠ 8 := own_ine hc91_18
    refine own_up (S' := T15.setTop (mkF m 105 #[.val (.int x1), .val (.int y1), .val (.int z1), .val (.int pp), .val (.int bb), .val (.int cnt), .val (.ref ob), .val (.int nb), .unset, .unset] [])) (fun t stp => XS.icmpYes X15.here hx rfl (pc0 := 91) (pc' := 105) rfl (hb hby at_91) rfl (XT.ii_ne_t hc91_18) (by decide) (by decide) stp) ?_
    refine own_up (S' := T15.setTop (mkF m 106 #[.val (.int x1), .val (.int y1), .val (.int z1), .val (.int pp), .val (.int bb), .val (.int cnt), .val (.ref ob), .val (.int nb), .unset, .unset] [(.int pp)])) (fun t stp => XS.iloadN X15.here hx rfl (hb hby at_105) rfl stp) ?_
    refine own_up (S' := T15.setTop (mkF m 108 #[.val (.int x1), .val (.int y1), .val (.int z1), .val (.int pp), .val (.int bb), .val (.int cnt), .val (.ref ob), .val (.int nb), .val (.int pp), .unset] [])) (fun t stp => XS.istore X15.here hx rfl (hb hby at_106) rfl (l' := #[.val (.int x1), .val (.int y1), .val (.int z1), .val (.int pp), .val (.int bb), .val (.int cnt), .val (.ref ob), .val (.int nb), .val (.int pp), .unset]) rfl stp) ?_
    refine own_up (S' := T15.setTop (mkF m 110 #[.val (.int x1), .val (.int y1), .val (.int z1), .val (.int pp), .val (.int bb), .val (.int cnt), .val (.ref ob), .val (.int nb), .val (.int pp), .unset] [(.int nb)])) (fun t stp => XS.iload X15.here hx rfl (hb hby at_108) rfl stp) ?_
    refine own_up (S' := T15.setTop (mkF m 112 #[.val (.int x1), .val (.int y1), .val (.int z1), .val (.int pp), .val (.int bb), .val (.int cnt), .val (.ref ob), .val (.int nb), .val (.int pp), .val (.int nb)] [])) (fun t stp => XS.istore X15.here hx rfl (hb hby at_110) rfl (l' := #[.val (.int x1), .val (.int y1), .val (.int z1), .val (.int pp), .val (.int bb), .val (.int cnt), .val (.ref ob), .val (.int nb), .val (.int pp), .val (.int nb)]) rfl stp) ?_
    refine own_up (S' := T15.setTop (mkF m 114 #[.val (.int x1), .val (.int y1), .val (.int z1), .val (.int pp), .val (.int bb), .val (.int cnt), .val (.ref ob), .val (.int nb), .val (.int pp), .val (.int nb)] [(.ref ob)])) (fun t stp => XS.aload X15.here hx rfl (hb hby at_112) rfl rfl stp) ?_
    refine own_callU X15 hx hZ hown (x := (⟨"com/example/wireloom/wireloom/CursorAdvanceBitsPinLaw", "position", "()I"⟩ : MethodName)) (y := (⟨"com/example/wireloom/wireloom/Cursor", "position", "()I"⟩ : MethodName)) (hw _ (List.mem_of_getElem? (i := 32) rfl)) (hw _ (List.mem_of_getElem? (i := 33) rfl)) (hw _ (List.mem_of_getElem? (i := 34) rfl)) (hw _ (List.mem_of_getElem? (i := 36) rfl)) (hw _ (List.mem_of_getElem? (i := 35) rfl)) (hw _ (List.mem_of_getElem? (i := 15) rfl)) (hw _ (List.mem_of_getElem? (i := 37) rfl)) (by decide) rfl (rm5 l Z a0 hw [] ob (if (bb + cnt) = (8 : Int32) then (pp + (1 : Int32)) else pp) T15.heap n0 Zn16 G15a_15) 0 A2_17 [] [] (hb hby at_114) (lenOf own_pd3 rfl) (by decide) (by decide) (by decide) (by decide) rfl (by rw [hml]; rfl) rfl (by show 2 * 0 + _ ≤ _; exact Nat.le_of_eq rfl) rfl ?_
    intro T25 L25 r25 X25 q25
    obtain ⟨rfl, M25, e25⟩ := q25
    have N25 := Fr.app N15 M25
    show own_Ends p e below s (own_Q0 Z x1 y1 z1 h0 n0) room_1.cells room_1.slots (T25.setTop (mkF m 117 #[.val (.int x1), .val (.int y1), .val (.int z1), .val (.int pp), .val (.int bb), .val (.int cnt), .val (.ref ob), .val (.int nb), .val (.int pp), .val (.int nb)] [(.int (if (bb + cnt) = (8 : Int32) then (pp + (1 : Int32)) else pp))]))
    refine own_up (S' := T25.setTop (mkF m 119 #[.val (.int x1), .val (.int y1), .val (.int z1), .val (.int pp), .val (.int bb), .val (.int cnt), .val (.ref ob), .val (.int nb), .val (.int pp), .val (.int nb)] [(.int pp), (.int (if (bb + cnt) = (8 : Int32) then (pp + (1 : Int32)) else pp))])) (fun t stp => XS.iload X25.here hx rfl (hb hby at_117) rfl stp) ?_
    have hc119_26 : (if (bb + cnt) = (8 : Int32) then (pp + (1 : Int32)) else pp) = pp := by rw [← h_nb, if_neg hc91_18]
    have ihc119_26 : (if (bb + cnt) = (8 : Int32) then (pp + (1 : Int32)) else pp).toInt = pp.toInt := own_ieq hc119_26
    refine own_up (S' := T25.setTop (mkF m 122 #[.val (.int x1), .val (.int y1), .val (.int z1), .val (.int pp), .val (.int bb), .val (.int cnt), .val (.ref ob), .val (.int nb), .val (.int pp), .val (.int nb)] [])) (fun t stp => XS.icmpNo X25.here hx rfl (hb hby at_119) rfl (XT.ii_ne_f hc119_26) stp) ?_
    refine own_up (S' := T25.setTop (mkF m 124 #[.val (.int x1), .val (.int y1), .val (.int z1), .val (.int pp), .val (.int bb), .val (.int cnt), .val (.ref ob), .val (.int nb), .val (.int pp), .val (.int nb)] [(.ref ob)])) (fun t stp => XS.aload X25.here hx rfl (hb hby at_122) rfl rfl stp) ?_
    refine own_callU X25 hx hZ hown (x := (⟨"com/example/wireloom/wireloom/CursorAdvanceBitsPinLaw", "bit", "()I"⟩ : MethodName)) (y := (⟨"com/example/wireloom/wireloom/Cursor", "bit", "()I"⟩ : MethodName)) (hw _ (List.mem_of_getElem? (i := 38) rfl)) (hw _ (List.mem_of_getElem? (i := 39) rfl)) (hw _ (List.mem_of_getElem? (i := 40) rfl)) (hw _ (List.mem_of_getElem? (i := 42) rfl)) (hw _ (List.mem_of_getElem? (i := 41) rfl)) (hw _ (List.mem_of_getElem? (i := 15) rfl)) (hw _ (List.mem_of_getElem? (i := 43) rfl)) (by decide) e25 (rm6 l Z a0 hw [] ob (if (bb + cnt) = (8 : Int32) then (0 : Int32) else (bb + cnt)) T15.heap n0 Zn16 G15b_15) 0 A2_17 [] [] (hb hby at_124) (lenOf own_pd3 rfl) (by decide) (by decide) (by decide) (by decide) rfl (by rw [hml]; rfl) rfl (by show 2 * 0 + _ ≤ _; exact Nat.le_of_eq rfl) rfl ?_
    intro T27 L27 r27 X27 q27
    obtain ⟨rfl, M27, e27⟩ := q27
    have N27 := Fr.app N25 M27
    show own_Ends p e below s (own_Q0 Z x1 y1 z1 h0 n0) room_1.cells room_1.slots (T27.setTop (mkF m 127 #[.val (.int x1), .val (.int y1), .val (.int z1), .val (.int pp), .val (.int bb), .val (.int cnt), .val (.ref ob), .val (.int nb), .val (.int pp), .val (.int nb)] [(.int (if (bb + cnt) = (8 : Int32) then (0 : Int32) else (bb + cnt)))]))
    refine own_up (S' := T27.setTop (mkF m 129 #[.val (.int x1), .val (.int y1), .val (.int z1), .val (.int pp), .val (.int bb), .val (.int cnt), .val (.ref ob), .val (.int nb), .val (.int pp), .val (.int nb)] [(.int nb), (.int (if (bb + cnt) = (8 : Int32) then (0 : Int32) else (bb + cnt)))])) (fun t stp => XS.iload X27.here hx rfl (hb hby at_127) rfl stp) ?_
    have hc129_28 : (if (bb + cnt) = (8 : Int32) then (0 : Int32) else (bb + cnt)) = nb := by rw [← h_nb, if_neg hc91_18]
    have ihc129_28 : (if (bb + cnt) = (8 : Int32) then (0 : Int32) else (bb + cnt)).toInt = nb.toInt := own_ieq hc129_28
    refine own_up (S' := T27.setTop (mkF m 132 #[.val (.int x1), .val (.int y1), .val (.int z1), .val (.int pp), .val (.int bb), .val (.int cnt), .val (.ref ob), .val (.int nb), .val (.int pp), .val (.int nb)] [])) (fun t stp => XS.icmpNo X27.here hx rfl (hb hby at_129) rfl (XT.ii_ne_f hc129_28) stp) ?_
    refine own_up (S' := T27.setTop (mkF m 134 #[.val (.int x1), .val (.int y1), .val (.int z1), .val (.int pp), .val (.int bb), .val (.int cnt), .val (.ref ob), .val (.int nb), .val (.int pp), .val (.int nb)] [(.ref ob)])) (fun t stp => XS.aload X27.here hx rfl (hb hby at_132) rfl rfl stp) ?_
    refine own_callU X27 hx hZ hown (x := (⟨"com/example/wireloom/wireloom/CursorAdvanceBitsPinLaw", "bitOffset", "()J"⟩ : MethodName)) (y := (⟨"com/example/wireloom/wireloom/Cursor", "bitOffset", "()J"⟩ : MethodName)) (hw _ (List.mem_of_getElem? (i := 50) rfl)) (hw _ (List.mem_of_getElem? (i := 51) rfl)) (hw _ (List.mem_of_getElem? (i := 52) rfl)) (hw _ (List.mem_of_getElem? (i := 54) rfl)) (hw _ (List.mem_of_getElem? (i := 53) rfl)) (hw _ (List.mem_of_getElem? (i := 15) rfl)) (hw _ (List.mem_of_getElem? (i := 55) rfl)) (by decide) e27 (rm8 l Z a0 hw [] ob (if (bb + cnt) = (8 : Int32) then (pp + (1 : Int32)) else pp) (if (bb + cnt) = (8 : Int32) then (0 : Int32) else (bb + cnt)) T15.heap n0 Zn16 G15a_15 G15b_15) 0 A2_17 [] [] (hb hby at_134) (lenOf own_pd5 rfl) (by decide) (by decide) (by decide) (by decide) rfl (by rw [hml]; rfl) rfl (by show 2 * 0 + _ ≤ _; exact Nat.le_of_eq rfl) rfl ?_
    intro T29 L29 r29 X29 q29
    obtain ⟨rfl, M29, e29⟩ := q29
    have N29 := Fr.app N27 M29
    show own_Ends p e below s (own_Q0 Z x1 y1 z1 h0 n0) room_1.cells room_1.slots (T29.setTop (mkF m 137 #[.val (.int x1), .val (.int y1), .val (.int z1), .val (.int pp), .val (.int bb), .val (.int cnt), .val (.ref ob), .val (.int nb), .val (.int pp), .val (.int nb)] [(.long (((8 : Int64) * (if (bb + cnt) = (8 : Int32) then (pp + (1 : Int32)) else pp).toInt64) + (if (bb + cnt) = (8 : Int32) then (0 : Int32) else (bb + cnt)).toInt64))]))
    refine own_up (S' := T29.setTop (mkF m 140 #[.val (.int x1), .val (.int y1), .val (.int z1), .val (.int pp), .val (.int bb), .val (.int cnt), .val (.ref ob), .val (.int nb), .val (.int pp), .val (.int nb)] [(.long (8 : Int64)), (.long (((8 : Int64) * (if (bb + cnt) = (8 : Int32) then (pp + (1 : Int32)) else pp).toInt64) + (if (bb + cnt) = (8 : Int32) then (0 : Int32) else (bb + cnt)).toInt64))])) (fun t stp => X29.ldc2J hx hown (mvT hZ (hw _ (List.mem_of_getElem? (i := 20) rfl))) rfl (hb hby at_137) stp) ?_
    refine own_up (S' := T29.setTop (mkF m 141 #[.val (.int x1), .val (.int y1), .val (.int z1), .val (.int pp), .val (.int bb), .val (.int cnt), .val (.ref ob), .val (.int nb), .val (.int pp), .val (.int nb)] [(.int pp), (.long (8 : Int64)), (.long (((8 : Int64) * (if (bb + cnt) = (8 : Int32) then (pp + (1 : Int32)) else pp).toInt64) + (if (bb + cnt) = (8 : Int32) then (0 : Int32) else (bb + cnt)).toInt64))])) (fun t stp => XS.iloadN X29.here hx rfl (hb hby at_140) rfl stp) ?_
    refine own_up (S' := T29.setTop (mkF m 142 #[.val (.int x1), .val (.int y1), .val (.int z1), .val (.int pp), .val (.int bb), .val (.int cnt), .val (.ref ob), .val (.int nb), .val (.int pp), .val (.int nb)] [(.long pp.toInt64), (.long (8 : Int64)), (.long (((8 : Int64) * (if (bb + cnt) = (8 : Int32) then (pp + (1 : Int32)) else pp).toInt64) + (if (bb + cnt) = (8 : Int32) then (0 : Int32) else (bb + cnt)).toInt64))])) (fun t stp => XT.i2l X29.here hx rfl (hb hby at_141) rfl stp) ?_
    refine own_up (S' := T29.setTop (mkF m 143 #[.val (.int x1), .val (.int y1), .val (.int z1), .val (.int pp), .val (.int bb), .val (.int cnt), .val (.ref ob), .val (.int nb), .val (.int pp), .val (.int nb)] [(.long ((8 : Int64) * pp.toInt64)), (.long (((8 : Int64) * (if (bb + cnt) = (8 : Int32) then (pp + (1 : Int32)) else pp).toInt64) + (if (bb + cnt) = (8 : Int32) then (0 : Int32) else (bb + cnt)).toInt64))])) (fun t stp => XT.lmul X29.here hx rfl (hb hby at_142) rfl stp) ?_
    refine own_up (S' := T29.setTop (mkF m 145 #[.val (.int x1), .val (.int y1), .val (.int z1), .val (.int pp), .val (.int bb), .val (.int cnt), .val (.ref ob), .val (.int nb), .val (.int pp), .val (.int nb)] [(.int bb), (.long ((8 : Int64) * pp.toInt64)), (.long (((8 : Int64) * (if (bb + cnt) = (8 : Int32) then (pp + (1 : Int32)) else pp).toInt64) + (if (bb + cnt) = (8 : Int32) then (0 : Int32) else (bb + cnt)).toInt64))])) (fun t stp => XS.iload X29.here hx rfl (hb hby at_143) rfl stp) ?_
    refine own_up (S' := T29.setTop (mkF m 146 #[.val (.int x1), .val (.int y1), .val (.int z1), .val (.int pp), .val (.int bb), .val (.int cnt), .val (.ref ob), .val (.int nb), .val (.int pp), .val (.int nb)] [(.long bb.toInt64), (.long ((8 : Int64) * pp.toInt64)), (.long (((8 : Int64) * (if (bb + cnt) = (8 : Int32) then (pp + (1 : Int32)) else pp).toInt64) + (if (bb + cnt) = (8 : Int32) then (0 : Int32) else (bb + cnt)).toInt64))])) (fun t stp => XT.i2l X29.here hx rfl (hb hby at_145) rfl stp) ?_
    refine own_up (S' := T29.setTop (mkF m 147 #[.val (.int x1), .val (.int y1), .val (.int z1), .val (.int pp), .val (.int bb), .val (.int cnt), .val (.ref ob), .val (.int nb), .val (.int pp), .val (.int nb)] [(.long (((8 : Int64) * pp.toInt64) + bb.toInt64)), (.long (((8 : Int64) * (if (bb + cnt) = (8 : Int32) then (pp + (1 : Int32)) else pp).toInt64) + (if (bb + cnt) = (8 : Int32) then (0 : Int32) else (bb + cnt)).toInt64))])) (fun t stp => XT.ladd X29.here hx rfl (hb hby at_146) rfl stp) ?_
    refine own_up (S' := T29.setTop (mkF m 149 #[.val (.int x1), .val (.int y1), .val (.int z1), .val (.int pp), .val (.int bb), .val (.int cnt), .val (.ref ob), .val (.int nb), .val (.int pp), .val (.int nb)] [(.int cnt), (.long (((8 : Int64) * pp.toInt64) + bb.toInt64)), (.long (((8 : Int64) * (if (bb + cnt) = (8 : Int32) then (pp + (1 : Int32)) else pp).toInt64) + (if (bb + cnt) = (8 : Int32) then (0 : Int32) else (bb + cnt)).toInt64))])) (fun t stp => XS.iload X29.here hx rfl (hb hby at_147) rfl stp) ?_
    refine own_up (S' := T29.setTop (mkF m 150 #[.val (.int x1), .val (.int y1), .val (.int z1), .val (.int pp), .val (.int bb), .val (.int cnt), .val (.ref ob), .val (.int nb), .val (.int pp), .val (.int nb)] [(.long cnt.toInt64), (.long (((8 : Int64) * pp.toInt64) + bb.toInt64)), (.long (((8 : Int64) * (if (bb + cnt) = (8 : Int32) then (pp + (1 : Int32)) else pp).toInt64) + (if (bb + cnt) = (8 : Int32) then (0 : Int32) else (bb + cnt)).toInt64))])) (fun t stp => XT.i2l X29.here hx rfl (hb hby at_149) rfl stp) ?_
    refine own_up (S' := T29.setTop (mkF m 151 #[.val (.int x1), .val (.int y1), .val (.int z1), .val (.int pp), .val (.int bb), .val (.int cnt), .val (.ref ob), .val (.int nb), .val (.int pp), .val (.int nb)] [(.long ((((8 : Int64) * pp.toInt64) + bb.toInt64) + cnt.toInt64)), (.long (((8 : Int64) * (if (bb + cnt) = (8 : Int32) then (pp + (1 : Int32)) else pp).toInt64) + (if (bb + cnt) = (8 : Int32) then (0 : Int32) else (bb + cnt)).toInt64))])) (fun t stp => XT.ladd X29.here hx rfl (hb hby at_150) rfl stp) ?_
    refine own_up (S' := T29.setTop (mkF m 152 #[.val (.int x1), .val (.int y1), .val (.int z1), .val (.int pp), .val (.int bb), .val (.int cnt), .val (.ref ob), .val (.int nb), .val (.int pp), .val (.int nb)] [(.int (XT.cmpL (((8 : Int64) * (if (bb + cnt) = (8 : Int32) then (pp + (1 : Int32)) else pp).toInt64) + (if (bb + cnt) = (8 : Int32) then (0 : Int32) else (bb + cnt)).toInt64) ((((8 : Int64) * pp.toInt64) + bb.toInt64) + cnt.toInt64)))])) (fun t stp => XT.lcmp X29.here hx rfl (hb hby at_151) rfl stp) ?_
    have ihc152_30 : (((8 : Int64) * (if (bb + cnt) = (8 : Int32) then (pp + (1 : Int32)) else pp).toInt64) + (if (bb + cnt) = (8 : Int32) then (0 : Int32) else (bb + cnt)).toInt64).toInt = ((((8 : Int64) * pp.toInt64) + bb.toInt64) + cnt.toInt64).toInt := by rw [← h_nb, if_neg hc91_18, if_neg hc91_18]; exact own_offn hpp0 hpp1 hbb0 hbb1 hcn0 hcn1 hnb
    have hc152_30 : (((8 : Int64) * (if (bb + cnt) = (8 : Int32) then (pp + (1 : Int32)) else pp).toInt64) + (if (bb + cnt) = (8 : Int32) then (0 : Int32) else (bb + cnt)).toInt64) = ((((8 : Int64) * pp.toInt64) + bb.toInt64) + cnt.toInt64) := own_leq_of ihc152_30
    refine own_up (S' := T29.setTop (mkF m 155 #[.val (.int x1), .val (.int y1), .val (.int z1), .val (.int pp), .val (.int bb), .val (.int cnt), .val (.ref ob), .val (.int nb), .val (.int pp), .val (.int nb)] [])) (fun t stp => XS.ifNo X29.here hx rfl (hb hby at_152) rfl (XT.ll_ne_f hc152_30) stp) ?_
    refine own_up (S' := T29.setTop (mkF m 156 #[.val (.int x1), .val (.int y1), .val (.int z1), .val (.int pp), .val (.int bb), .val (.int cnt), .val (.ref ob), .val (.int nb), .val (.int pp), .val (.int nb)] [(.int (1 : Int32))])) (fun t stp => XT.iconstV X29.here hx rfl (1 : Int32) (hb hby at_155) rfl stp) ?_
    refine own_up (S' := T29.setTop (mkF m 160 #[.val (.int x1), .val (.int y1), .val (.int z1), .val (.int pp), .val (.int bb), .val (.int cnt), .val (.ref ob), .val (.int nb), .val (.int pp), .val (.int nb)] [(.int (1 : Int32))])) (fun t stp => XS.goto X29.here hx rfl (pc0 := 156) (pc' := 160) rfl (hb hby at_156) (by decide) (by decide) stp) ?_
    refine own_retN X29 hx hlk (t := .boolean) hret (by simp) (z' := (1 : Int32)) rfl (hb hby at_160) (by decide) (by decide) ?_
    show own_Q0 Z x1 y1 z1 h0 n0 _ T29.heap _
    rw [e29]
    exact ⟨rfl, N29⟩
set_option maxRecDepth 65536 in
set_option maxHeartbeats 40000000 in
theorem comes_1 {Post : Tables → Env → Array Value → State → Outcome → State → Prop} (hpost : ∀ tb e args s v u, (limb_1_1.after args s (.returned v) u = true ∧ limb_1_2.after args s (.returned v) u = true ∧ True) → FrameEnd s (.returned v) u (Jvm.fieldLocs frame_1_writes args s ++ Jvm.arrayLocs frame_1_arrays args s ++ Jvm.staticLocs frame_1_statics s) 16 128 → Post tb e args s (.returned v) u) :
    ArmFor flags0 classFile x code maxLocals ret World_1 tables_1 room_1 Calls_1 rest_1 Pre_1 Post := by
  intro l hfl _ _ p e ha hc hk s m args below hf hA hF happ hP
  obtain ⟨hcalls, hrest, hpre⟩ := hP
  obtain ⟨-, -, -, hnamed, -, -, -, hat⟩ := (Spec.applies_iff hf).mp happ
  obtain ⟨hg, hn⟩ := and_e (Cond.before_iff.mp (show (Jvm.Cond.and given_1 narrow_1).before args s = true from hpre))
  obtain ⟨g0, k0⟩ := and_e hg
  obtain ⟨g1, k1⟩ := and_e k0
  obtain ⟨g2, k2⟩ := and_e k1
  obtain ⟨w0, w1, w2, rfl⟩ : ∃ w0 w1 w2 : Value, args = #[w0, w1, w2] := by
    have hs : args.size = 3 := by simpa [Cond.value, given_1] using g0
    obtain ⟨L⟩ := args
    match L, hs with
    | [w0, w1, w2], _ => exact ⟨w0, w1, w2, rfl⟩
  have hw := fun d (hd : d ∈ tables_1) => atoms_spec (ws := Jvm.Cond.code x code maxLocals ret :: tables_1) hat d (List.mem_cons_of_mem _ hd)
  obtain ⟨i0, ei0⟩ := is_v g1
  obtain rfl : w0 = (.int i0) := Option.some.inj ei0
  obtain ⟨i1, ei1⟩ := is_v g2
  obtain rfl : w1 = (.int i1) := Option.some.inj ei1
  obtain ⟨i2, ei2⟩ := is_v k2
  obtain rfl : w2 = (.int i2) := Option.some.inj ei2
  obtain ⟨n, o, h1, h2, h3, _, L, rfl, ⟨rfl, N⟩, hq⟩ := rm0 l s _ hw tables_1 i0 i1 i2 s.heap s.heap.size (Nat.le_refl _)  p e ha hc hk s m _ below hf ((Spec.applies_iff_loose hf).mp happ).1 ⟨rfl, State.Warmed39.refl s, rfl⟩ trivial
  refine ⟨n, _, h1, h2, h3, hpost _ _ _ _ _ _ ⟨Cond.after_iff.mpr rfl, Cond.after_iff.mpr (eq_i res_at (Term.int_eval (1)) rfl), trivial⟩ ⟨hq.1, hq.2.1, (hq.2.2.sift fun y hy => Or.inr (N y hy)).mono (by decide) (by decide)⟩⟩
theorem main_1_1 : Claimed_1_1 := comes_1 fun _ _ _ _ _ _ h hF => ⟨h.1, hF⟩
theorem main_1_2 : Claimed_1_2 := comes_1 fun _ _ _ _ _ _ h hF => ⟨h.2.1, hF⟩
end Jvm.Pilot.@@N@@
namespace Jvm.Pilot.@@N@@
open Jvm Jvm.ClassFile Sem Op Lib Jvm.Free Jvm.Stand Jvm.Pilot.@@N@@.Jvm.D
/-! MADE BY PROGRAM (witnessworld.py) out of the Statement's table words and the real class files: 10 classes; the members and pool entries that the words name. The judged class is class 2, her method 1. -/
namespace start1
open Jvm.ClassFile
def u (s : String) : CpInfo := .utf8 (stringToUtf16 s)
/-- a pool by its gaps: so many unusable entries, then the entry; so many at the end -/
def gap : Nat → List CpInfo → List CpInfo
  | 0, r => r
  | n + 1, r => .unusable :: gap n r
def poolList (es : List (Nat × CpInfo)) (last : Nat) : List CpInfo := es.foldr (fun e r => gap e.1 (e.2 :: r)) (gap last [])
def pool (es : List (Nat × CpInfo)) (last : Nat) : Array CpInfo := ⟨poolList es last⟩
def fileOf (pool : Array CpInfo) (this : Nat) (attrs : Array Attribute := #[]) (ms : Array MethodInfo := #[]) (fl : Nat := 33) (sup : Nat := 0) (ifs : Array Nat := #[]) (fds : Array FieldInfo := #[]) : ClassFile where
  minorVersion := 0
  majorVersion := 65
  constantPool := pool
  accessFlags := fl
  thisClass := this
  superClass := sup
  interfaces := ifs
  fields := fds
  methods := ms
  attributes := attrs
def plain (name : String) (sup : Option ClassId) : Class where
  name := name
  kind := .ordinary
  loader := none
  accessFlags := 33
  super := sup
  interfaces := #[]
  cf := none
  fields := #[]
  methods := #[]
  instanceTypes := #[]
  staticTypes := #[]
  resolved := #[]
  callSites := []
  init := .initialized
  statics := none
  mirror := none

def pool0 : Array CpInfo := pool [(5, u "<init>"), (0, u "()V"), (1, .class_ 10), (1, u "java/lang/Object")] 113

def k0c0 : Code := { maxStack := 0, maxLocals := 1, code := object_method_1_code, exceptionTable := #[], attributes := #[] }
def k0m0 : Method := { name := "<init>", desc := "()V", sig := { parameters := [], returnType := none }, accessFlags := 1, code := some k0c0 }
/-- java/lang/Object -/
def k0 : Class := { plain "java/lang/Object" none with
  accessFlags := 33
  interfaces := #[]
  cf := some (fileOf pool0 8 #[] #[{ accessFlags := 1, nameIndex := 5, descriptorIndex := 6, attributes := #[] }] 33 0 #[] #[])
  fields := #[]
  methods := #[k0m0]
  instanceTypes := #[]
  staticTypes := #[]
  resolved := Array.replicate 124 none
  statics := none }

def pool1 : Array CpInfo := pool [(1, .methodref 2 3), (0, .class_ 4), (0, .nameAndType 5 6), (0, u "java/lang/Object"), (0, u "<init>"), (0, u "()V"), (0, .fieldref 8 9), (0, .class_ 10), (0, .nameAndType 11 12), (0, u "com/example/wireloom/wireloom/Cursor"), (0, u "position"), (0, u "I"), (0, .fieldref 8 14), (0, .nameAndType 15 12), (0, u "bit"), (0, .long 8), (7, u "()I"), (0, u "bitOffset"), (0, u "()J"), (0, u "moveTo"), (0, u "(J)V"), (1, u "(I)V"), (0, u "advanceBits")] 22

def k1c0 : Code := { maxStack := 1, maxLocals := 1, code := prog_14_method_1_code, exceptionTable := #[], attributes := #[] }
def k1m0 : Method := { name := "<init>", desc := "()V", sig := { parameters := [], returnType := none }, accessFlags := 0, code := some k1c0 }
def k1c1 : Code := { maxStack := 1, maxLocals := 1, code := prog_14_method_2_code, exceptionTable := #[], attributes := #[] }
def k1m1 : Method := { name := "position", desc := "()I", sig := { parameters := [], returnType := some .int }, accessFlags := 17, code := some k1c1 }
def k1c2 : Code := { maxStack := 1, maxLocals := 1, code := prog_14_method_3_code, exceptionTable := #[], attributes := #[] }
def k1m2 : Method := { name := "bit", desc := "()I", sig := { parameters := [], returnType := some .int }, accessFlags := 16, code := some k1c2 }
def k1c3 : Code := { maxStack := 4, maxLocals := 1, code := prog_14_method_4_code, exceptionTable := #[], attributes := #[] }
def k1m3 : Method := { name := "bitOffset", desc := "()J", sig := { parameters := [], returnType := some .long }, accessFlags := 17, code := some k1c3 }
def k1c4 : Code := { maxStack := 5, maxLocals := 3, code := prog_14_method_5_code, exceptionTable := #[], attributes := #[] }
def k1m4 : Method := { name := "moveTo", desc := "(J)V", sig := { parameters := [.long], returnType := none }, accessFlags := 16, code := some k1c4 }
def k1c5 : Code := { maxStack := 3, maxLocals := 2, code := prog_14_method_7_code, exceptionTable := #[], attributes := #[] }
def k1m5 : Method := { name := "advanceBits", desc := "(I)V", sig := { parameters := [.int], returnType := none }, accessFlags := 16, code := some k1c5 }
/-- com/example/wireloom/wireloom/Cursor -/
def k1 : Class := { plain "com/example/wireloom/wireloom/Cursor" (some 0) with
  accessFlags := 1057
  interfaces := #[]
  cf := some (fileOf pool1 8 #[] #[{ accessFlags := 0, nameIndex := 5, descriptorIndex := 6, attributes := #[] }, { accessFlags := 17, nameIndex := 11, descriptorIndex := 24, attributes := #[] }, { accessFlags := 16, nameIndex := 15, descriptorIndex := 24, attributes := #[] }, { accessFlags := 17, nameIndex := 25, descriptorIndex := 26, attributes := #[] }, { accessFlags := 16, nameIndex := 27, descriptorIndex := 28, attributes := #[] }, { accessFlags := 16, nameIndex := 31, descriptorIndex := 30, attributes := #[] }] 1057 2 #[] #[{ accessFlags := 2, nameIndex := 11, descriptorIndex := 12, attributes := #[] }, { accessFlags := 2, nameIndex := 15, descriptorIndex := 12, attributes := #[] }])
  fields := #[{ name := "position", type := .int, accessFlags := 2, slot := 0, constantValue := 0 }, { name := "bit", type := .int, accessFlags := 2, slot := 1, constantValue := 0 }]
  methods := #[k1m0, k1m1, k1m2, k1m3, k1m4, k1m5]
  instanceTypes := #[.int, .int]
  staticTypes := #[]
  resolved := Array.replicate 54 none
  statics := none }

def pool2 : Array CpInfo := pool [(1, .methodref 2 3), (0, .class_ 4), (0, .nameAndType 5 6), (0, u "com/example/wireloom/wireloom/Cursor"), (0, u "<init>"), (0, u "()V"), (0, .integer 2147483647), (2, .integer 2147483646), (0, .methodref 12 13), (0, .class_ 14), (0, .nameAndType 15 16), (0, u "java/lang/Math"), (0, u "min"), (0, u "(II)I"), (0, .class_ 18), (0, u "com/example/wireloom/wireloom/CursorAdvanceBitsPinLaw"), (0, .methodref 17 3), (0, .long 8), (1, .methodref 17 23), (0, .nameAndType 24 25), (0, u "moveTo"), (0, u "(J)V"), (0, .methodref 17 27), (0, .nameAndType 28 29), (0, u "position"), (0, u "()I"), (0, .methodref 17 31), (0, .nameAndType 32 29), (0, u "bit"), (0, .methodref 17 34), (0, .nameAndType 35 36), (0, u "advanceBits"), (0, u "(I)V"), (0, .methodref 17 38), (0, .nameAndType 39 40), (0, u "bitOffset"), (0, u "()J"), (2, u "law"), (0, u "(III)Z")] 3

def k2c0 : Code := { maxStack := 1, maxLocals := 1, code := method_1_code, exceptionTable := #[], attributes := #[] }
def k2m0 : Method := { name := "<init>", desc := "()V", sig := { parameters := [], returnType := none }, accessFlags := 2, code := some k2c0 }
def k2c1 : Code := { maxStack := 6, maxLocals := 10, code := code, exceptionTable := #[], attributes := #[] }
def k2m1 : Method := { name := "law", desc := "(III)Z", sig := { parameters := [.int, .int, .int], returnType := some .boolean }, accessFlags := 9, code := some k2c1 }
/-- com/example/wireloom/wireloom/CursorAdvanceBitsPinLaw -/
def k2 : Class := { plain "com/example/wireloom/wireloom/CursorAdvanceBitsPinLaw" (some 1) with
  accessFlags := 49
  interfaces := #[]
  cf := some (fileOf pool2 17 #[] #[{ accessFlags := 2, nameIndex := 5, descriptorIndex := 6, attributes := #[] }, { accessFlags := 9, nameIndex := 43, descriptorIndex := 44, attributes := #[] }] 49 2 #[] #[])
  fields := #[]
  methods := #[k2m0, k2m1]
  instanceTypes := #[.int, .int]
  staticTypes := #[]
  resolved := Array.replicate 48 none
  statics := none }

def pool3 : Array CpInfo := pool [(1, .class_ 2), (0, u "java/lang/Math"), (1, .class_ 6), (1, u "java/lang/Object"), (0, u "<init>"), (0, u "()V"), (89, .class_ 100), (1, u "java/lang/Math$RandomNumberGeneratorHolder"), (71, u "negativeZeroFloatBits"), (0, u "J"), (2, u "negativeZeroDoubleBits"), (24, u "min"), (43, u "$assertionsDisabled"), (0, u "Z"), (88, u "(II)I"), (2, u "twoToTheDoubleScaleDown"), (0, u "D"), (4, u "twoToTheDoubleScaleUp"), (9, u "E"), (3, u "PI"), (2, u "TAU"), (2, u "DEGREES_TO_RADIANS"), (0, u "RADIANS_TO_DEGREES")] 94

def k3m0 : Method := { name := "<init>", desc := "()V", sig := { parameters := [], returnType := none }, accessFlags := 2, code := none }
def k3c1 : Code := { maxStack := 2, maxLocals := 2, code := jdk_29_method_69_code, exceptionTable := #[], attributes := #[] }
def k3m1 : Method := { name := "min", desc := "(II)I", sig := { parameters := [.int, .int], returnType := some .int }, accessFlags := 9, code := some k3c1 }
/-- java/lang/Math -/
def k3 : Class := { plain "java/lang/Math" (some 0) with
  accessFlags := 49
  interfaces := #[]
  cf := some (fileOf pool3 1 #[.nestMembers #[98]] #[{ accessFlags := 2, nameIndex := 7, descriptorIndex := 8, attributes := #[] }, { accessFlags := 9, nameIndex := 201, descriptorIndex := 335, attributes := #[] }] 49 4 #[] #[{ accessFlags := 25, nameIndex := 354, descriptorIndex := 339, attributes := #[] }, { accessFlags := 25, nameIndex := 358, descriptorIndex := 339, attributes := #[] }, { accessFlags := 25, nameIndex := 361, descriptorIndex := 339, attributes := #[] }, { accessFlags := 26, nameIndex := 364, descriptorIndex := 339, attributes := #[] }, { accessFlags := 26, nameIndex := 365, descriptorIndex := 339, attributes := #[] }, { accessFlags := 26, nameIndex := 172, descriptorIndex := 173, attributes := #[] }, { accessFlags := 26, nameIndex := 176, descriptorIndex := 173, attributes := #[] }, { accessFlags := 8, nameIndex := 344, descriptorIndex := 339, attributes := #[] }, { accessFlags := 8, nameIndex := 338, descriptorIndex := 339, attributes := #[] }, { accessFlags := 4120, nameIndex := 245, descriptorIndex := 246, attributes := #[] }])
  fields := #[{ name := "E", type := .double, accessFlags := 25, slot := 0, constantValue := 0 }, { name := "PI", type := .double, accessFlags := 25, slot := 1, constantValue := 0 }, { name := "TAU", type := .double, accessFlags := 25, slot := 2, constantValue := 0 }, { name := "DEGREES_TO_RADIANS", type := .double, accessFlags := 26, slot := 3, constantValue := 0 }, { name := "RADIANS_TO_DEGREES", type := .double, accessFlags := 26, slot := 4, constantValue := 0 }, { name := "negativeZeroFloatBits", type := .long, accessFlags := 26, slot := 5, constantValue := 0 }, { name := "negativeZeroDoubleBits", type := .long, accessFlags := 26, slot := 6, constantValue := 0 }, { name := "twoToTheDoubleScaleUp", type := .double, accessFlags := 8, slot := 7, constantValue := 0 }, { name := "twoToTheDoubleScaleDown", type := .double, accessFlags := 8, slot := 8, constantValue := 0 }, { name := "$assertionsDisabled", type := .boolean, accessFlags := 4120, slot := 9, constantValue := 0 }]
  methods := #[k3m0, k3m1]
  instanceTypes := #[]
  staticTypes := #[.double, .double, .double, .double, .double, .long, .long, .double, .double, .boolean]
  resolved := Array.replicate 460 none
  statics := none }

def pool4 : Array CpInfo := pool [(1, u "java/lang/Cloneable"), (0, .class_ 1), (0, u "java/lang/Object"), (0, .class_ 3)] 3

/-- java/lang/Cloneable -/
def k4 : Class := { plain "java/lang/Cloneable" (some 0) with
  accessFlags := 1537
  interfaces := #[]
  cf := some (fileOf pool4 2 #[] #[] 1537 4 #[] #[])
  fields := #[]
  methods := #[]
  instanceTypes := #[]
  staticTypes := #[]
  resolved := Array.replicate 8 none
  statics := none }

def pool5 : Array CpInfo := pool [(1, u "java/io/Serializable"), (0, .class_ 1), (0, u "java/lang/Object"), (0, .class_ 3)] 3

/-- java/io/Serializable -/
def k5 : Class := { plain "java/io/Serializable" (some 0) with
  accessFlags := 1537
  interfaces := #[]
  cf := some (fileOf pool5 2 #[] #[] 1537 4 #[] #[])
  fields := #[]
  methods := #[]
  instanceTypes := #[]
  staticTypes := #[]
  resolved := Array.replicate 8 none
  statics := none }

/-- the primitive byte -/
def k6 : Class := { plain "byte" none with kind := .primitive 'B', accessFlags := 0x411 }
/-- [B -/
def k7 : Class := { plain "[B" (some 0) with kind := .array 6 .byte, interfaces := #[4, 5], accessFlags := 1041 }

/-- the primitive int -/
def k8 : Class := { plain "int" none with kind := .primitive 'I', accessFlags := 0x411 }
/-- [I -/
def k9 : Class := { plain "[I" (some 0) with kind := .array 8 .int, interfaces := #[4, 5], accessFlags := 1041 }

def heap : Heap := #[]
def classes : Array Class := #[k0, k1, k2, k3, k4, k5, k6, k7, k8, k9]
def interned : List (Array UInt16 × Addr) := []
def slotsUsed : Nat := 0
def theMethod : MethodId := ⟨2, 1⟩
def args0 : Array Value := #[.int 70, .int 3, .int 9]
def aboutOver (below : List Frame) : State where
  vm := { classes := classes, interned := interned.toArray }
  heap := heap
  slotsUsed := slotsUsed
  threads := #[{ frames := .invoking theMethod args0 :: below }]
def below0 : List Frame := [.native { method := ⟨0, 0⟩, args := #[] }]
def about1 : State := aboutOver below0
def p0 : Program := .bare "" "" ""
def e0 : Env := launch0.env 0 0 0
theorem w_frames : about1.frames = Frame.invoking theMethod args0 :: below0 := rfl
set_option maxRecDepth 65536 in
theorem w_args : argsFit about1.vm theMethod args0 = true := by decide +kernel
set_option maxRecDepth 65536 in
theorem w_heap : heapFits about1 = true := by decide +kernel
set_option maxRecDepth 65536 in
theorem w_runnable : about1.curStatus? = some .runnable := by decide +kernel
set_option maxRecDepth 65536 in
theorem w_alone : about1.alone = true := by decide +kernel
set_option maxRecDepth 65536 in
theorem w_named : about1.methodNamed? x = some theMethod := by decide +kernel
set_option maxRecDepth 65536 in
theorem w_hears : about1.hears theMethod below0 = true := by decide +kernel
set_option maxRecDepth 65536 in
theorem w_ripe : about1.ripe theMethod args0 below0 = true := by decide +kernel
theorem w_running : about1.status = .running := rfl
set_option maxRecDepth 65536 in
theorem w_room : about1.hasRoom e0.platform room_1 = true :=
  launch0.hasRoom_least _ room_1 (by decide +kernel) (by decide +kernel) (by decide +kernel) (by decide +kernel) (by decide +kernel) (by decide +kernel)
theorem allAtoms_all (ts : List Jvm.Cond) (a : Array Jvm.Value) (st : Jvm.State) : (allAtoms ts).before a st = ts.all (fun c => c.before a st) := by
  induction ts with
  | nil => rfl
  | cons c t ih =>
    show (Jvm.Cond.and c (allAtoms t)).before a st = _
    rw [Jvm.Cond.before_and, ih, List.all_cons]
def words1 : List Jvm.Cond := Jvm.Cond.code x code maxLocals ret :: tables_1
/-- a 'code' word, met by the world's own term for the bytes: nothing is compared byte by byte -/
theorem code_word {y : MethodName} {bytes : ByteArray} {mx : Nat} {rt : Option FieldType} {a : Array Value} {s : State} {m : MethodId} {meth : Method} {c : Code} (h1 : s.methodNamed? y = some m) (h2 : s.vm.method? m = some meth) (h3 : meth.code = some c) (h4 : c.code = bytes)
    (h5 : (c.maxLocals == mx && c.exceptionTable.isEmpty && decide (c.maxStack ≤ mostOperands) && decide (meth.sig.returnType = rt) && !meth.locks && decide (parseMethodDescriptor y.desc = some meth.sig)) = true) : (Jvm.Cond.code y bytes mx rt).before a s = true := by
  simp only [Bool.and_eq_true, beq_iff_eq, Bool.not_eq_true', decide_eq_true_eq] at h5
  obtain ⟨⟨⟨⟨⟨g1, g2⟩, g3⟩, g4⟩, g5⟩, g6⟩ := h5
  simp [Cond.before, Cond.holds, Cond.value, h1, h2, h3, h4, g1, g2, g3, g4, g5, g6]
def isCode : Jvm.Cond → Bool
  | .code _ _ _ _ => true
  | _ => false
theorem all_split {L : List Jvm.Cond} {P : Jvm.Cond → Bool} (h1 : L.all (fun c => isCode c || P c) = true) (h2 : ∀ c ∈ L.filter isCode, P c = true) : L.all P = true := by
  refine List.all_eq_true.mpr fun c hc => ?_
  have h := List.all_eq_true.mp h1 c hc
  rcases Bool.eq_false_or_eq_true (isCode c) with hi | hi
  · exact h2 c (List.mem_filter.mpr ⟨hc, hi⟩)
  · simpa [hi] using h
set_option maxRecDepth 65536 in
theorem w_c0 : (Jvm.Cond.code x code maxLocals ret).before args0 about1 = true := code_word (m := ⟨2, 1⟩) (meth := k2m1) (c := k2c1) (by decide +kernel) rfl rfl rfl (by decide +kernel)
set_option maxRecDepth 65536 in
theorem w_c1 : (Jvm.Cond.code ({ cls := "java/lang/Math", name := "min", desc := "(II)I" } : Jvm.MethodName) jdk_29_method_69_code (2 : Nat) (Option.some Jvm.ClassFile.FieldType.int)).before args0 about1 = true := code_word (m := ⟨3, 1⟩) (meth := k3m1) (c := k3c1) (by decide +kernel) rfl rfl rfl (by decide +kernel)
set_option maxRecDepth 65536 in
theorem w_c2 : (Jvm.Cond.code ({ cls := "com/example/wireloom/wireloom/CursorAdvanceBitsPinLaw", name := "<init>", desc := "()V" } : Jvm.MethodName) method_1_code (1 : Nat) (Option.none : Option Jvm.ClassFile.FieldType)).before args0 about1 = true := code_word (m := ⟨2, 0⟩) (meth := k2m0) (c := k2c0) (by decide +kernel) rfl rfl rfl (by decide +kernel)
set_option maxRecDepth 65536 in
theorem w_c3 : (Jvm.Cond.code ({ cls := "com/example/wireloom/wireloom/Cursor", name := "<init>", desc := "()V" } : Jvm.MethodName) prog_14_method_1_code (1 : Nat) (Option.none : Option Jvm.ClassFile.FieldType)).before args0 about1 = true := code_word (m := ⟨1, 0⟩) (meth := k1m0) (c := k1c0) (by decide +kernel) rfl rfl rfl (by decide +kernel)
set_option maxRecDepth 65536 in
theorem w_c4 : (Jvm.Cond.code ({ cls := "java/lang/Object", name := "<init>", desc := "()V" } : Jvm.MethodName) object_method_1_code (1 : Nat) (Option.none : Option Jvm.ClassFile.FieldType)).before args0 about1 = true := code_word (m := ⟨0, 0⟩) (meth := k0m0) (c := k0c0) (by decide +kernel) rfl rfl rfl (by decide +kernel)
set_option maxRecDepth 65536 in
theorem w_c5 : (Jvm.Cond.code ({ cls := "com/example/wireloom/wireloom/Cursor", name := "moveTo", desc := "(J)V" } : Jvm.MethodName) prog_14_method_5_code (3 : Nat) (Option.none : Option Jvm.ClassFile.FieldType)).before args0 about1 = true := code_word (m := ⟨1, 4⟩) (meth := k1m4) (c := k1c4) (by decide +kernel) rfl rfl rfl (by decide +kernel)
set_option maxRecDepth 65536 in
theorem w_c6 : (Jvm.Cond.code ({ cls := "com/example/wireloom/wireloom/Cursor", name := "position", desc := "()I" } : Jvm.MethodName) prog_14_method_2_code (1 : Nat) (Option.some Jvm.ClassFile.FieldType.int)).before args0 about1 = true := code_word (m := ⟨1, 1⟩) (meth := k1m1) (c := k1c1) (by decide +kernel) rfl rfl rfl (by decide +kernel)
set_option maxRecDepth 65536 in
theorem w_c7 : (Jvm.Cond.code ({ cls := "com/example/wireloom/wireloom/Cursor", name := "bit", desc := "()I" } : Jvm.MethodName) prog_14_method_3_code (1 : Nat) (Option.some Jvm.ClassFile.FieldType.int)).before args0 about1 = true := code_word (m := ⟨1, 2⟩) (meth := k1m2) (c := k1c2) (by decide +kernel) rfl rfl rfl (by decide +kernel)
set_option maxRecDepth 65536 in
theorem w_c8 : (Jvm.Cond.code ({ cls := "com/example/wireloom/wireloom/Cursor", name := "advanceBits", desc := "(I)V" } : Jvm.MethodName) prog_14_method_7_code (2 : Nat) (Option.none : Option Jvm.ClassFile.FieldType)).before args0 about1 = true := code_word (m := ⟨1, 5⟩) (meth := k1m5) (c := k1c5) (by decide +kernel) rfl rfl rfl (by decide +kernel)
set_option maxRecDepth 65536 in
theorem w_c9 : (Jvm.Cond.code ({ cls := "com/example/wireloom/wireloom/Cursor", name := "bitOffset", desc := "()J" } : Jvm.MethodName) prog_14_method_4_code (1 : Nat) (Option.some Jvm.ClassFile.FieldType.long)).before args0 about1 = true := code_word (m := ⟨1, 3⟩) (meth := k1m3) (c := k1c3) (by decide +kernel) rfl rfl rfl (by decide +kernel)
def codes1 : List Jvm.Cond := [Jvm.Cond.code x code maxLocals ret, Jvm.Cond.code ({ cls := "java/lang/Math", name := "min", desc := "(II)I" } : Jvm.MethodName) jdk_29_method_69_code (2 : Nat) (Option.some Jvm.ClassFile.FieldType.int), Jvm.Cond.code ({ cls := "com/example/wireloom/wireloom/CursorAdvanceBitsPinLaw", name := "<init>", desc := "()V" } : Jvm.MethodName) method_1_code (1 : Nat) (Option.none : Option Jvm.ClassFile.FieldType), Jvm.Cond.code ({ cls := "com/example/wireloom/wireloom/Cursor", name := "<init>", desc := "()V" } : Jvm.MethodName) prog_14_method_1_code (1 : Nat) (Option.none : Option Jvm.ClassFile.FieldType), Jvm.Cond.code ({ cls := "java/lang/Object", name := "<init>", desc := "()V" } : Jvm.MethodName) object_method_1_code (1 : Nat) (Option.none : Option Jvm.ClassFile.FieldType), Jvm.Cond.code ({ cls := "com/example/wireloom/wireloom/Cursor", name := "moveTo", desc := "(J)V" } : Jvm.MethodName) prog_14_method_5_code (3 : Nat) (Option.none : Option Jvm.ClassFile.FieldType), Jvm.Cond.code ({ cls := "com/example/wireloom/wireloom/Cursor", name := "position", desc := "()I" } : Jvm.MethodName) prog_14_method_2_code (1 : Nat) (Option.some Jvm.ClassFile.FieldType.int), Jvm.Cond.code ({ cls := "com/example/wireloom/wireloom/Cursor", name := "bit", desc := "()I" } : Jvm.MethodName) prog_14_method_3_code (1 : Nat) (Option.some Jvm.ClassFile.FieldType.int), Jvm.Cond.code ({ cls := "com/example/wireloom/wireloom/Cursor", name := "advanceBits", desc := "(I)V" } : Jvm.MethodName) prog_14_method_7_code (2 : Nat) (Option.none : Option Jvm.ClassFile.FieldType), Jvm.Cond.code ({ cls := "com/example/wireloom/wireloom/Cursor", name := "bitOffset", desc := "()J" } : Jvm.MethodName) prog_14_method_4_code (1 : Nat) (Option.some Jvm.ClassFile.FieldType.long)]
set_option maxRecDepth 65536 in
theorem codes_eq : words1.filter isCode = codes1 := rfl
theorem w_codes : ∀ c ∈ words1.filter isCode, c.before args0 about1 = true := by
  rw [codes_eq]
  intro c hc
  simp only [codes1, List.mem_cons, List.not_mem_nil, or_false] at hc
  rcases hc with rfl | rfl | rfl | rfl | rfl | rfl | rfl | rfl | rfl | rfl
  · exact w_c0
  · exact w_c1
  · exact w_c2
  · exact w_c3
  · exact w_c4
  · exact w_c5
  · exact w_c6
  · exact w_c7
  · exact w_c8
  · exact w_c9
set_option maxRecDepth 65536 in
theorem w_t1 : (words1.take 24).all (fun c => isCode c || c.before args0 about1) = true := by decide +kernel
set_option maxRecDepth 65536 in
theorem w_t2 : ((words1.drop 24).take 24).all (fun c => isCode c || c.before args0 about1) = true := by decide +kernel
set_option maxRecDepth 65536 in
theorem w_t3 : ((words1.drop 24).drop 24).all (fun c => isCode c || c.before args0 about1) = true := by decide +kernel
theorem w_tables : (allAtoms (Jvm.Cond.code x code maxLocals ret :: tables_1)).before args0 about1 = true := by
  rw [allAtoms_all]
  show words1.all (fun c => c.before args0 about1) = true
  refine all_split ?_ w_codes
  rw [← List.take_append_drop 24 words1, List.all_append, w_t1, ← List.take_append_drop 24 (words1.drop 24), List.all_append, w_t2, w_t3]
  rfl
set_option maxRecDepth 65536 in
theorem w_case : (Jvm.Cond.and given_1 narrow_1).before args0 about1 = true := by decide +kernel
theorem w_applies : (headSpec (Jvm.Cond.code x code maxLocals ret :: tables_1) room_1).applies x e0.platform about1 = true :=
  (Spec.applies_iff w_frames).mpr ⟨w_running, w_runnable, w_alone, w_named, w_hears, w_ripe, w_room, w_tables⟩
theorem atStart : AtStart classFile x code maxLocals ret World_1 tables_1 room_1 Calls_1 rest_1 Pre_1 launch0 p0 e0 about1 theMethod args0 below0 :=
  ⟨lists_1, trivial, launch0.admits_env _ _ _, launch0.least_env, fairChoices_fair.cas, fairChoices_fair.clock, w_frames, w_args, w_heap, w_applies, trivial, trivial, w_case⟩
end start1
theorem witness_1 : WitnessClaimed_1 := ⟨start1.p0, start1.e0, start1.about1, start1.theMethod, start1.args0, start1.below0, start1.atStart⟩
end Jvm.Pilot.@@N@@
