import JvmDerived
import JvmDerived.Pilot.@@N@@Statement
import JvmDerived.Pilot.@@N@@Code
set_option linter.unusedVariables false
set_option linter.unusedSimpArgs false
namespace Jvm.Pilot.@@N@@
open Jvm Jvm.ClassFile Sem Op Lib Jvm.Free Jvm.Stand Jvm.LawKit Jvm.RoadKit Bundle Jvm.Pilot.@@N@@.Jvm.D
section Own
/-! comparisons, said of the integers -/
theorem own_ieq {x y : Int32} (h : x = y) : x.toInt = y.toInt := by rw [h]
theorem own_ine {x y : Int32} (h : ¬ (x = y)) : x.toInt ≠ y.toInt := fun q => h (Int32.toInt_inj.mp q)
theorem own_ilt {x y : Int32} (h : x < y) : x.toInt < y.toInt := Int32.lt_iff_toInt_lt.mp h
theorem own_inl {x y : Int32} (h : ¬ (x < y)) : y.toInt ≤ x.toInt := Int.not_lt.mp fun q => h (Int32.lt_iff_toInt_lt.mpr q)
theorem own_ieq_of {x y : Int32} (h : x.toInt = y.toInt) : x = y := Int32.toInt_inj.mp h
theorem own_ine_of {x y : Int32} (h : x.toInt ≠ y.toInt) : ¬ (x = y) := fun q => h (by rw [q])
theorem own_ilt_of {x y : Int32} (h : x.toInt < y.toInt) : x < y := Int32.lt_iff_toInt_lt.mpr h
theorem own_inl_of {x y : Int32} (h : y.toInt ≤ x.toInt) : ¬ (x < y) := fun q => Int.not_lt.mpr h (Int32.lt_iff_toInt_lt.mp q)
theorem own_leq {x y : Int64} (h : x = y) : x.toInt = y.toInt := by rw [h]
theorem own_lne {x y : Int64} (h : ¬ (x = y)) : x.toInt ≠ y.toInt := fun q => h (Int64.toInt_inj.mp q)
theorem own_llt {x y : Int64} (h : x < y) : x.toInt < y.toInt := Int64.lt_iff_toInt_lt.mp h
theorem own_lnl {x y : Int64} (h : ¬ (x < y)) : y.toInt ≤ x.toInt := Int.not_lt.mp fun q => h (Int64.lt_iff_toInt_lt.mpr q)
theorem own_leq_of {x y : Int64} (h : x.toInt = y.toInt) : x = y := Int64.toInt_inj.mp h
theorem own_lne_of {x y : Int64} (h : x.toInt ≠ y.toInt) : ¬ (x = y) := fun q => h (by rw [q])
theorem own_llt_of {x y : Int64} (h : x.toInt < y.toInt) : x < y := Int64.lt_iff_toInt_lt.mpr h
theorem own_lnl_of {x y : Int64} (h : y.toInt ≤ x.toInt) : ¬ (x < y) := fun q => Int.not_lt.mpr h (Int64.lt_iff_toInt_lt.mp q)
variable {p : Program} {l : Launch} {e : Env} {R : Room} {s : State} {m : MethodId} {args : Array Value} {below : List Frame} {meth : Method} {c : Code} {T : State} {locs : List Loc} {cells slots : Nat} {Z : State} {a0 : Array Value} {h : Heap} {Q : Option Value → Heap → List Loc → Prop} {kc ks : Nat} {S S' : State}
/-- from S the invocation comes back; Q holds of what it returned, of the heap and of the places written -/
def own_Ends (p : Program) (e : Env) (below : List Frame) (s : State) (Q : Option Value → Heap → List Loc → Prop) (kc ks : Nat) (S : State) : Prop :=
  ∃ s₂ o, Steps p.tables e below S s₂ ∧ s₂.status = .running ∧ Ended s₂ below o ∧ ∃ v L, o = .returned v ∧ Q v s₂.heap L ∧ FrameEnd s o s₂ L kc ks
theorem own_up (st : ∀ t, Steps p.tables e below S' t → Steps p.tables e below S t) (k : own_Ends p e below s Q kc ks S') : own_Ends p e below s Q kc ks S := by
  obtain ⟨t, o, h1, h2⟩ := k
  exact ⟨t, o, st t h1, h2⟩
theorem own_met {y : MethodName} {code : ByteArray} {maxL : Nat} {ret : Option FieldType} {rm : Room} {as' : Array Value} {ws : List Jvm.Cond} {L0 : Array Slot}
    (hpl : plainFor y = true) (hef : ∀ m, entryFrame m as' maxL = mkF m 0 L0 [])
    (body : ∀ (p : Program) (e : Env) (s : State) (m : MethodId) (below : List Frame) (meth : Method) (c : Code) (T : State), p.tables.exec = Jvm.exec → c.code = code → c.maxLocals = maxL → s.vm.findClass y.cls = some m.cls → meth.name = y.name → meth.sig.returnType = ret → meth.locks = false → Z.Warmed39 s.vm → T.heap = h → Stand p l e rm s m as' below meth c T [] 0 0 → own_Ends p e below s Q rm.cells rm.slots (T.setTop (mkF m 0 L0 []))) :
    MetFree l y (head1 (Jvm.Cond.code y code maxL ret :: ws) rm) (fun a U => a = as' ∧ Z.Warmed39 U.vm ∧ U.heap = h) (fun _ _ _ _ _ => True) (fun _ U o U' => ∃ v L, o = .returned v ∧ Q v U'.heap L ∧ FrameEnd U o U' L rm.cells rm.slots) := by
  refine MetFree.of_bodySF hpl hisR ?_
  intro p e s m args below meth c s₁ Bd hml hP hK
  obtain ⟨rfl, hZ, hh⟩ := hP
  rw [hef m]
  exact body p e s m below meth c s₁ Bd.exec Bd.bytes hml (findClass_of_methodNamed Bd.named) (name_of_methodNamed Bd.named Bd.method).1 Bd.returns (BodyLoose.notSynchronized Bd) hZ (by rw [← hh, Bd.state]; rfl) (Stand.of_body Bd)
/-! returns -/
theorem own_iret (X : Stand p l e R s m args below meth c T locs cells slots) (hx : p.tables.exec = Jvm.exec) {pc : Nat} {Ls : Array Slot} {z : Int32} {rest : List Value} (hret : meth.sig.returnType = some .int) (hd : decode c.code pc = .ok (.ireturn, 1)) {fs : List Frame}
    (hl : ∀ (f : JFrame) (acts : List Action), f.method = m → f.locked = none → f.entered = [] → (doReturn e (T.setTop f) acts (some (.int z))).1 = T.setFrames fs) : Steps p.tables e below (T.setTop (mkF m pc Ls (.int z :: rest))) (T.setFrames fs) :=
  retOut X hx hret rfl (Or.inl ⟨rfl, Or.inl rfl, _, rfl⟩) hd hl
theorem own_retI (X : Stand p l e R s m args below meth c T locs cells slots) (hx : p.tables.exec = Jvm.exec) (hlk : meth.locks = false) (hret : meth.sig.returnType = some .int) {pc : Nat} {Ls : Array Slot} {z : Int32} {rest : List Value} (hd : decode c.code pc = .ok (.ireturn, 1)) (hc : cells ≤ kc) (hs : slots ≤ ks) (hq : Q (some (.int z)) T.heap locs) :
    own_Ends p e below s Q kc ks (T.setTop (mkF m pc Ls (.int z :: rest))) := by
  obtain ⟨fs, hr, hrun, hended, hW, hsame⟩ := X.leave (v := some (.int z)) (fun q => by rw [hret] at q; cases q) hlk
  exact ⟨_, _, own_iret X hx hret hd hr, hrun, hended, _, _, rfl, hq, ⟨_, rfl⟩, hW, hsame.mono hc hs⟩
theorem own_retN (X : Stand p l e R s m args below meth c T locs cells slots) (hx : p.tables.exec = Jvm.exec) (hlk : meth.locks = false) {t : FieldType} (hret : meth.sig.returnType = some t) (ht : t = .boolean ∨ t = .byte ∨ t = .char ∨ t = .short) {pc : Nat} {Ls : Array Slot} {z z' : Int32} {rest : List Value} (hn : nar t z = z') (hd : decode c.code pc = .ok (.ireturn, 1)) (hc : cells ≤ kc) (hs : slots ≤ ks) (hq : Q (some (.int z')) T.heap locs) :
    own_Ends p e below s Q kc ks (T.setTop (mkF m pc Ls (.int z :: rest))) := by
  subst hn
  obtain ⟨fs, hr, hrun, hended, hW, hsame⟩ := X.leave (v := some (.int (nar t z))) (fun q => by rw [hret] at q; cases q) hlk
  exact ⟨_, _, retN X hx hret ht hd hr, hrun, hended, _, _, rfl, hq, ⟨_, rfl⟩, hW, hsame.mono hc hs⟩
theorem own_retL (X : Stand p l e R s m args below meth c T locs cells slots) (hx : p.tables.exec = Jvm.exec) (hlk : meth.locks = false) (hret : meth.sig.returnType = some .long) {pc : Nat} {Ls : Array Slot} {z : Int64} {rest : List Value} (hd : decode c.code pc = .ok (.lreturn, 1)) (hc : cells ≤ kc) (hs : slots ≤ ks) (hq : Q (some (.long z)) T.heap locs) :
    own_Ends p e below s Q kc ks (T.setTop (mkF m pc Ls (.long z :: rest))) := by
  obtain ⟨fs, hr, hrun, hended, hW, hsame⟩ := X.leave (v := some (.long z)) (fun q => by rw [hret] at q; cases q) hlk
  exact ⟨_, _, retOut X hx hret rfl (Or.inr (Or.inl ⟨rfl, rfl, _, rfl⟩)) hd hr, hrun, hended, _, _, rfl, hq, ⟨_, rfl⟩, hW, hsame.mono hc hs⟩
theorem own_retA (X : Stand p l e R s m args below meth c T locs cells slots) (hx : p.tables.exec = Jvm.exec) (hlk : meth.locks = false) {t : FieldType} (hret : meth.sig.returnType = some t) (ht : t.isReference = true) {pc : Nat} {Ls : Array Slot} {a : Addr} {rest : List Value} (hn : narrow t (.ref a) = .ref a) (hd : decode c.code pc = .ok (.areturn, 1)) (hc : cells ≤ kc) (hs : slots ≤ ks) (hq : Q (some (.ref a)) T.heap locs) :
    own_Ends p e below s Q kc ks (T.setTop (mkF m pc Ls (.ref a :: rest))) := by
  obtain ⟨fs, hr, hrun, hended, hW, hsame⟩ := X.leave (v := some (.ref a)) (fun q => by rw [hret] at q; cases q) hlk
  exact ⟨_, _, retOut X hx hret hn (Or.inr (Or.inr (Or.inr (Or.inr ⟨rfl, ht, rfl⟩)))) hd hr, hrun, hended, _, _, rfl, hq, ⟨_, rfl⟩, hW, hsame.mono hc hs⟩
theorem own_retV (X : Stand p l e R s m args below meth c T locs cells slots) (hx : p.tables.exec = Jvm.exec) (hlk : meth.locks = false) (hret : meth.sig.returnType = none) {pc : Nat} {Ls : Array Slot} (hd : decode c.code pc = .ok (.return_, 1)) (hc : cells ≤ kc) (hs : slots ≤ ks) (hq : Q none T.heap locs) :
    own_Ends p e below s Q kc ks (T.setTop (mkF m pc Ls [])) := by
  obtain ⟨fs, hr, hrun, hended, hW, hsame⟩ := X.leave (v := none) (fun _ => rfl) hlk
  exact ⟨_, _, X.returnOut hx hret hd hr, hrun, hended, _, _, rfl, hq, ⟨_, rfl⟩, hW, hsame.mono hc hs⟩
/-! calls -/
theorem own_callS (X : Stand p l e R s m args below meth c T locs cells slots) (hx : p.tables.exec = Jvm.exec) (hZ : Z.Warmed39 s.vm) {own : String} {index : Nat} {y : MethodName} {bytes : ByteArray} {maxL : Nat} {ret : Option FieldType} {rm : Room} {as' : Array Value} {Qc : Option Value → Heap → List Loc → Prop}
    (hown : s.vm.findClass own = some m.cls) (w1 : (Jvm.Cond.methodLink own index y).before a0 Z = true) (w2 : (Jvm.Cond.static y).before a0 Z = true) (w3 : (Jvm.Cond.initialized y.cls).before a0 Z = true) (w4 : (Jvm.Cond.code y bytes maxL ret).before a0 Z = true)
    (hy : y.cls ≠ "java/lang/invoke/MethodHandle" ∧ y.cls ≠ "java/lang/invoke/VarHandle") (eT : T.heap = h)
    (hM : MetFree l y (head1 [Jvm.Cond.code y bytes maxL ret] rm) (fun a U => a = as' ∧ Z.Warmed39 U.vm ∧ U.heap = h) (fun _ _ _ _ _ => True) (fun _ U o U' => ∃ v L, o = .returned v ∧ Qc v U'.heap L ∧ FrameEnd U o U' L rm.cells rm.slots))
    (W : Nat) {g : JFrame} (argsL rest : List Value) (hdg : decode c.code g.pc = .ok (.invokestatic index, 3)) (hlen : ∀ sig, parseMethodDescriptor y.desc = some sig → argsL.length = sig.parameters.length)
    (hf : rm.frames + 1 ≤ R.frames) (hl : W + (maxL + 11) + rm.locals ≤ R.locals) (hc : cells + rm.cells ≤ R.cells) (hs : slots + rm.slots ≤ R.slots)
    (hg : g.method = m) (hsize : g.locals.size = c.maxLocals) (hstack : g.stack = argsL.reverse ++ rest) (hW : 2 * g.monitorRoom + (rest.map fun v => v.category).sum ≤ W) (has : argsL.toArray = as')
    (k : ∀ T' L v, Stand p l e R s m args below meth c T' (locs ++ L) (cells + rm.cells) (slots + rm.slots) → Qc v T'.heap L → own_Ends p e below s Q kc ks (T'.setTop { g with pc := g.pc + 3, stack := v.toList ++ rest })) :
    own_Ends p e below s Q kc ks (T.setTop g) := by
  subst has
  obtain ⟨v, _, ⟨T', L', c', n'⟩, -, X', ⟨L, hQ, l1, y1, z1⟩, st⟩ := Jvm.LawKit.callS X hx hown (mvT hZ w1) (mvT hZ w2) (mvT hZ w3) (mvT hZ w4) hy (backOf (W := W) hM hZ w4 w3 hf hl) hg hsize hlen hstack hW hdg (fun _ _ => ⟨rfl, eT, hc, hs⟩)
  dsimp only [Pt.U, Pt.locs, Pt.cells, Pt.slots] at X' l1 y1 z1 st hQ
  subst l1 y1 z1
  exact own_up st (k T' L v X' hQ)
theorem own_callI (X : Stand p l e R s m args below meth c T locs cells slots) (hx : p.tables.exec = Jvm.exec) (hZ : Z.Warmed39 s.vm) {own : String} {index : Nat} {y : MethodName} {bytes : ByteArray} {maxL : Nat} {rm : Room} {as' : Array Value} {Qc : Option Value → Heap → List Loc → Prop}
    (hy1 : y.name = "<init>") (hown : s.vm.findClass own = some m.cls) (w1 : (Jvm.Cond.methodLink own index y).before a0 Z = true) (w2 : (Jvm.Cond.instanceMethod y).before a0 Z = true) (w3 : (Jvm.Cond.initialized y.cls).before a0 Z = true) (w4 : (Jvm.Cond.code y bytes maxL none).before a0 Z = true)
    (hy : y.cls ≠ "java/lang/invoke/MethodHandle" ∧ y.cls ≠ "java/lang/invoke/VarHandle") (eT : T.heap = h)
    (hM : MetFree l y (head1 [Jvm.Cond.code y bytes maxL none] rm) (fun a U => a = as' ∧ Z.Warmed39 U.vm ∧ U.heap = h) (fun _ _ _ _ _ => True) (fun _ U o U' => ∃ v L, o = .returned v ∧ Qc v U'.heap L ∧ FrameEnd U o U' L rm.cells rm.slots))
    (W : Nat) {g : JFrame} (a : Addr) (argsL rest : List Value) (hdg : decode c.code g.pc = .ok (.invokespecial index, 3)) (hlen : ∀ sig, parseMethodDescriptor y.desc = some sig → argsL.length = sig.parameters.length)
    (hf : rm.frames + 1 ≤ R.frames) (hl : W + (maxL + 11) + rm.locals ≤ R.locals) (hc : cells + rm.cells ≤ R.cells) (hs : slots + rm.slots ≤ R.slots)
    (hg : g.method = m) (hsize : g.locals.size = c.maxLocals) (hstack : g.stack = argsL.reverse ++ .ref a :: rest) (hW : 2 * g.monitorRoom + (rest.map fun v => v.category).sum ≤ W) (has : (.ref a :: argsL).toArray = as')
    (k : ∀ T' L v, Stand p l e R s m args below meth c T' (locs ++ L) (cells + rm.cells) (slots + rm.slots) → Qc v T'.heap L → own_Ends p e below s Q kc ks (T'.setTop { g with pc := g.pc + 3, stack := v.toList ++ rest })) :
    own_Ends p e below s Q kc ks (T.setTop g) := by
  subst has
  obtain ⟨v, _, ⟨T', L', c', n'⟩, -, X', ⟨L, hQ, l1, y1, z1⟩, st⟩ := X.specialBack hx hy1 hown (mvT hZ w1) (mvT hZ w2) (mvT hZ w4) hy (backOf (W := W) hM hZ w4 w3 hf hl) hg hsize (Steps.refl _) hlen hstack hW hdg (fun _ _ => ⟨rfl, eT, hc, hs⟩)
  dsimp only [Pt.U, Pt.locs, Pt.cells, Pt.slots] at X' l1 y1 z1 st hQ
  subst l1 y1 z1
  exact own_up (fun t q => st.trans q) (k T' L v X' hQ)
theorem own_callV (X : Stand p l e R s m args below meth c T locs cells slots) (hx : p.tables.exec = Jvm.exec) (hZ : Z.Warmed39 s.vm) {own C : String} {index : Nat} {y : MethodName} {bytes : ByteArray} {maxL : Nat} {ret : Option FieldType} {rm : Room} {as' : Array Value} {Qc : Option Value → Heap → List Loc → Prop}
    (hown : s.vm.findClass own = some m.cls) (w1 : (Jvm.Cond.methodLink own index y).before a0 Z = true) (w2 : (Jvm.Cond.declares y).before a0 Z = true) (w5 : (Jvm.Cond.selects C y y).before a0 Z = true) (w6 : (Jvm.Cond.instanceMethod y).before a0 Z = true) (w3 : (Jvm.Cond.initialized y.cls).before a0 Z = true) (w4 : (Jvm.Cond.code y bytes maxL ret).before a0 Z = true)
    (hy : y.cls ≠ "java/lang/invoke/MethodHandle" ∧ y.cls ≠ "java/lang/invoke/VarHandle") (eT : T.heap = h)
    (hM : MetFree l y (head1 [Jvm.Cond.code y bytes maxL ret] rm) (fun a U => a = as' ∧ Z.Warmed39 U.vm ∧ U.heap = h) (fun _ _ _ _ _ => True) (fun _ U o U' => ∃ v L, o = .returned v ∧ Qc v U'.heap L ∧ FrameEnd U o U' L rm.cells rm.slots))
    (W : Nat) {g : JFrame} {a : Addr} (E : Exa Z h a C) (argsL rest : List Value) (hdg : decode c.code g.pc = .ok (.invokevirtual index, 3)) (hlen : ∀ sig, parseMethodDescriptor y.desc = some sig → argsL.length = sig.parameters.length)
    (hf : rm.frames + 1 ≤ R.frames) (hl : W + (maxL + 11) + rm.locals ≤ R.locals) (hc : cells + rm.cells ≤ R.cells) (hs : slots + rm.slots ≤ R.slots)
    (hg : g.method = m) (hsize : g.locals.size = c.maxLocals) (hstack : g.stack = argsL.reverse ++ .ref a :: rest) (hW : 2 * g.monitorRoom + (rest.map fun v => v.category).sum ≤ W) (has : (.ref a :: argsL).toArray = as')
    (k : ∀ T' L v, Stand p l e R s m args below meth c T' (locs ++ L) (cells + rm.cells) (slots + rm.slots) → Qc v T'.heap L → own_Ends p e below s Q kc ks (T'.setTop { g with pc := g.pc + 3, stack := v.toList ++ rest })) :
    own_Ends p e below s Q kc ks (T.setTop g) := by
  subst has
  obtain ⟨cq, kq, qa, qb, qc⟩ := isOf hZ eT E
  obtain ⟨v, _, ⟨T', L', c', n'⟩, -, X', ⟨L, hQ, l1, y1, z1⟩, st⟩ := X.virtualBack hx hown (mvT hZ w1) (mvT hZ w2) (notFace_of_selects (args := #[]) (mvT hZ w5)) (mvT hZ w5) (mvT hZ w6) hy (backOf (W := W) hM hZ w4 w3 hf hl) qa qc hg hsize (Steps.refl _) hlen hstack hW hdg (fun _ _ => ⟨rfl, eT, hc, hs⟩)
  dsimp only [Pt.U, Pt.locs, Pt.cells, Pt.slots] at X' l1 y1 z1 st hQ
  subst l1 y1 z1
  exact own_up (fun t q => st.trans q) (k T' L v X' hQ)
/-- the link names y in a class that inherits it from 'owner' -/
theorem own_callU (X : Stand p l e R s m args below meth c T locs cells slots) (hx : p.tables.exec = Jvm.exec) (hZ : Z.Warmed39 s.vm) {own C owner : String} {index : Nat} {x y : MethodName} {bytes : ByteArray} {maxL : Nat} {ret : Option FieldType} {rm : Room} {as' : Array Value} {Qc : Option Value → Heap → List Loc → Prop}
    (hown : s.vm.findClass own = some m.cls) (w1 : (Jvm.Cond.methodLink own index x).before a0 Z = true) (w7 : (Jvm.Cond.sameMethod x.cls owner x.name x.desc).before a0 Z = true) (w2 : (Jvm.Cond.declares ⟨owner, x.name, x.desc⟩).before a0 Z = true) (w5 : (Jvm.Cond.selects C x y).before a0 Z = true) (w6 : (Jvm.Cond.instanceMethod y).before a0 Z = true) (w3 : (Jvm.Cond.initialized y.cls).before a0 Z = true) (w4 : (Jvm.Cond.code y bytes maxL ret).before a0 Z = true)
    (hy : owner ≠ "java/lang/invoke/MethodHandle" ∧ owner ≠ "java/lang/invoke/VarHandle") (eT : T.heap = h)
    (hM : MetFree l y (head1 [Jvm.Cond.code y bytes maxL ret] rm) (fun a U => a = as' ∧ Z.Warmed39 U.vm ∧ U.heap = h) (fun _ _ _ _ _ => True) (fun _ U o U' => ∃ v L, o = .returned v ∧ Qc v U'.heap L ∧ FrameEnd U o U' L rm.cells rm.slots))
    (W : Nat) {g : JFrame} {a : Addr} (E : Exa Z h a C) (argsL rest : List Value) (hdg : decode c.code g.pc = .ok (.invokevirtual index, 3)) (hlen : ∀ sig, parseMethodDescriptor x.desc = some sig → argsL.length = sig.parameters.length)
    (hf : rm.frames + 1 ≤ R.frames) (hl : W + (maxL + 11) + rm.locals ≤ R.locals) (hc : cells + rm.cells ≤ R.cells) (hs : slots + rm.slots ≤ R.slots)
    (hg : g.method = m) (hsize : g.locals.size = c.maxLocals) (hstack : g.stack = argsL.reverse ++ .ref a :: rest) (hW : 2 * g.monitorRoom + (rest.map fun v => v.category).sum ≤ W) (has : (.ref a :: argsL).toArray = as')
    (k : ∀ T' L v, Stand p l e R s m args below meth c T' (locs ++ L) (cells + rm.cells) (slots + rm.slots) → Qc v T'.heap L → own_Ends p e below s Q kc ks (T'.setTop { g with pc := g.pc + 3, stack := v.toList ++ rest })) :
    own_Ends p e below s Q kc ks (T.setTop g) := by
  subst has
  obtain ⟨cq, kq, qa, qb, qc⟩ := isOf hZ eT E
  obtain ⟨v, _, ⟨T', L', c', n'⟩, -, X', ⟨L, hQ, l1, y1, z1⟩, st⟩ := X.virtualBackUp hx hown (mvT hZ w1) (mvT hZ w7) (mvT hZ w2) hy (mvT hZ w5) (mvT hZ w6) (backOf (W := W) hM hZ w4 w3 hf hl) qa qc hg hsize (Steps.refl _) hlen hstack hW hdg (fun _ _ => ⟨rfl, eT, hc, hs⟩)
  dsimp only [Pt.U, Pt.locs, Pt.cells, Pt.slots] at X' l1 y1 z1 st hQ
  subst l1 y1 z1
  exact own_up (fun t q => st.trans q) (k T' L v X' hQ)
theorem own_init (X : Stand p l e R s m args below meth c T locs cells slots) (hx : p.tables.exec = Jvm.exec) (hZ : Z.Warmed39 s.vm) {own : String} {idx : Nat} (hown : s.vm.findClass own = some m.cls) (w1 : (Jvm.Cond.methodLink own idx Lib.objectInit).before a0 Z = true) (w2 : (Jvm.Cond.instanceMethod Lib.objectInit).before a0 Z = true)
    (w3 : (Jvm.Cond.code Lib.objectInit ⟨#[0xb1]⟩ 1 none).before a0 Z = true) (eT : T.heap = h) (W : Nat) {g g' : JFrame} {a : Addr} {rest : List Value} (hd : decode c.code g.pc = .ok (.invokespecial idx, 3)) (hf : 1 ≤ R.frames) (hl : W + 12 ≤ R.locals)
    (hg : g.method = m) (hsize : g.locals.size = c.maxLocals) (hs : g.stack = .ref a :: rest) (hW : 2 * g.monitorRoom + (rest.map fun v => v.category).sum ≤ W) (hg' : { g with pc := g.pc + 3, stack := rest } = g')
    (k : ∀ T', Stand p l e R s m args below meth c T' locs cells slots → T'.heap = h → own_Ends p e below s Q kc ks (T'.setTop g')) : own_Ends p e below s Q kc ks (T.setTop g) := by
  subst hg'
  obtain ⟨T', X', e', st⟩ := initO X hx hZ hown w1 w2 w3 eT hg hsize hs hd hf hW hl
  exact own_up st (k T' X' e')
/-! the heap -/
theorem own_new (X : Stand p l e R s m args below meth c T locs cells slots) (hx : p.tables.exec = Jvm.exec) (hZ : Z.Warmed39 s.vm) {own C : String} {index n : Nat} (hown : s.vm.findClass own = some m.cls) (w : (Jvm.Cond.classLink own index C).before a0 Z = true) (wi : (Jvm.Cond.instantiable C n).before a0 Z = true) (wz : (Jvm.Cond.initialized C).before a0 Z = true) (eT : T.heap = h)
    {g : JFrame} (hg : g.method = m) (hd : decode c.code g.pc = .ok (.new index, 3)) (hc : cells + 1 ≤ R.cells) (hl : slots + n ≤ R.slots)
    (k : ∀ T' h' b, b = h.size → Stand p l e R s m args below meth c T' locs (cells + 1) (slots + n) → T'.heap = h' → Ext h h' → Exa Z h' b C → (∀ {O nm d : String} {ty : FieldType}, Laid Z a0 C O nm d → parseFieldDescriptor d = some ty → Fld Z h' b O nm d (defaultValue ty)) → own_Ends p e below s Q kc ks (T'.setTop { g with pc := g.pc + 3, stack := .ref b :: g.stack })) : own_Ends p e below s Q kc ks (T.setTop g) := by
  obtain ⟨T', h', X', e', E, A, D, -, st⟩ := newO X hx hZ hown w wi wz eT hg hd hc hl
  exact own_up st (k T' h' _ rfl X' e' E A D)
theorem own_get (X : Stand p l e R s m args below meth c T locs cells slots) (hx : p.tables.exec = Jvm.exec) (hZ : Z.Warmed39 s.vm) {own R0 O n d : String} {index : Nat} (hown : s.vm.findClass own = some m.cls) (w : (Jvm.Cond.fieldLink own index R0 n d).before a0 Z = true) (via : Via Z R0 O n d)
    (eT : T.heap = h) {a : Addr} {v : Value} (F : Fld Z h a O n d v) {g g' : JFrame} {rest : List Value} (hd : decode c.code g.pc = .ok (.getfield index, 3)) (hg : g.method = m) (hs : g.stack = .ref a :: rest) (hg' : { g with pc := g.pc + 3, stack := v :: rest } = g')
    (k : ∀ T', Stand p l e R s m args below meth c T' locs cells slots → T'.heap = h → own_Ends p e below s Q kc ks (T'.setTop g')) : own_Ends p e below s Q kc ks (T.setTop g) := by
  subst hg'
  obtain ⟨T', X', e', st⟩ := getF X hx hZ hown (host := "") (Or.inl w) via eT F hg hs hd
  exact own_up st (k T' X' e')
theorem own_gets (X : Stand p l e R s m args below meth c T locs cells slots) (hx : p.tables.exec = Jvm.exec) (hZ : Z.Warmed39 s.vm) {own R0 O n d : String} {index : Nat} (hown : s.vm.findClass own = some m.cls) (w : (Jvm.Cond.fieldLink own index R0 n d).before a0 Z = true) (via : Via Z R0 O n d)
    (eT : T.heap = h) {v : Value} (F : Sta Z h O n d v) {g g' : JFrame} (hd : decode c.code g.pc = .ok (.getstatic index, 3)) (hg : g.method = m) (hg' : { g with pc := g.pc + 3, stack := v :: g.stack } = g')
    (k : ∀ T', Stand p l e R s m args below meth c T' locs cells slots → T'.heap = h → own_Ends p e below s Q kc ks (T'.setTop g')) : own_Ends p e below s Q kc ks (T.setTop g) := by
  subst hg'
  obtain ⟨T', X', e', st⟩ := getS2 X hx hZ hown (host := "") (Or.inl w) via eT F hg hd
  exact own_up st (k T' X' e')
theorem own_put (X : Stand p l e R s m args below meth c T locs cells slots) (hx : p.tables.exec = Jvm.exec) (hZ : Z.Warmed39 s.vm) {own R0 O n d C : String} {index kk : Nat} (ty : FieldType) (hown : s.vm.findClass own = some m.cls) (w : (Jvm.Cond.fieldLink own index R0 n d).before a0 Z = true) (via : Via Z R0 O n d)
    (eT : T.heap = h) {a : Addr} {v v' old : Value} (F : Fld Z h a O n d old) (E : Exa Z h a C) (L : (Jvm.Cond.lays C O n d).before a0 Z = true ∨ ((Jvm.Cond.laysFinal C O n d).before a0 Z = true ∧ own = O ∧ meth.name = "<init>")) (wi : (Jvm.Cond.instantiable C kk).before a0 Z = true)
    (hty : parseFieldDescriptor d = some ty) (hn : narrow ty v = v') (hf : fits ty v' = true) {g g' : JFrame} {rest : List Value} (hd : decode c.code g.pc = .ok (.putfield index, 3)) (hg : g.method = m) (hs : g.stack = v :: .ref a :: rest) (hg' : { g with pc := g.pc + 3, stack := rest } = g')
    (k : ∀ T' h', Stand p l e R s m args below meth c T' (locs ++ [⟨a, Jvm.RoadKit.slotOf Z O n d⟩]) cells slots → T'.heap = h' → Wr h h' a (Jvm.RoadKit.slotOf Z O n d) v' → own_Ends p e below s Q kc ks (T'.setTop g')) : own_Ends p e below s Q kc ks (T.setTop g) := by
  subst hg'
  obtain ⟨T', h', X', e', W, st⟩ := putFN X hx hZ hown w via eT F E L wi hty hn hf hg hs hd
  exact own_up st (k T' h' X' e' W)
theorem own_fr {k : Nat} {L : List Loc} {a : Addr} {sl : Nat} (N : Fr k L) (q : k ≤ a) : Fr k (L ++ [⟨a, sl⟩]) := N.app fun y hy => by cases List.mem_singleton.mp hy; exact q
/-! arrays: the list of the values -/
def own_Al (Z : State) (h : Heap) (a : Addr) (ty : FieldType) (vs : List Value) : Prop := ∃ c : Cell, Arr Z h a c ty ∧ c.slots.toList = vs ∧ vs.length < 2 ^ 31
theorem own_Al_lt {h : Heap} {a : Addr} {ty : FieldType} {vs : List Value} (A : own_Al Z h a ty vs) : a < h.size := by obtain ⟨c, A, -⟩ := A; exact A.lt
theorem own_Al_ext {h h' : Heap} {a : Addr} {ty : FieldType} {vs : List Value} (E : Ext h h') (A : own_Al Z h a ty vs) : own_Al Z h' a ty vs := by obtain ⟨c, A, r⟩ := A; exact ⟨c, A.ext E, r⟩
theorem own_Al_oth {h h' : Heap} {a b : Addr} {sl : Nat} {v : Value} {ty : FieldType} {vs : List Value} (W : Wr h h' b sl v) (A : own_Al Z h a ty vs) (ne : a ≠ b) : own_Al Z h' a ty vs := by obtain ⟨c, A, r⟩ := A; exact ⟨c, A.other W ne, r⟩
theorem own_Al_keep {h h' : Heap} {a : Addr} {ws : List Addr} {ty : FieldType} {vs : List Value} (K : Keep h h' ws) (A : own_Al Z h a ty vs) (ne : a ∉ ws) : own_Al Z h' a ty vs := by obtain ⟨c, A, r⟩ := A; exact ⟨c, ⟨K.2.1 a c A.1 ne, A.2⟩, r⟩
theorem own_nat {j : Int32} {i : Nat} (hj : j.toInt = i) : ¬ j < 0 ∧ j.toNatClampNeg = i := by
  have h0 : ¬ j < 0 := by rw [Int32.lt_iff_toInt_lt, hj]; have : (0 : Int32).toInt = 0 := rfl; omega
  refine ⟨h0, ?_⟩
  have := nat_of h0
  omega
theorem own_newa (X : Stand p l e R s m args below meth c T locs cells slots) (hx : p.tables.exec = Jvm.exec) (hZ : Z.Warmed39 s.vm) {aty : ArrayType} {ty : FieldType} (hty : newarray.typeOf aty = ty) (w : (Jvm.Cond.arrayClass ty).before a0 Z = true) (eT : T.heap = h) {g : JFrame} {z : Int32} (nn : Nat) {rest : List Value} (hd : decode c.code g.pc = .ok (.newarray aty, 2)) (hn : z.toInt = nn) (cap : Nat) (hcap : nn ≤ cap) (hb : cap * 8 ≤ 536870912) (hc : cells + 1 ≤ R.cells) (hl : slots + cap ≤ R.slots)
    (hg : g.method = m) (hs : g.stack = .int z :: rest)
    (k : ∀ T' h' b, b = h.size → Stand p l e R s m args below meth c T' locs (cells + 1) (slots + cap) → T'.heap = h' → Ext h h' → own_Al Z h' b ty (List.replicate nn (defaultValue ty)) → own_Ends p e below s Q kc ks (T'.setTop { g with pc := g.pc + 2, stack := .ref b :: rest })) : own_Ends p e below s Q kc ks (T.setTop g) := by
  subst hty
  obtain ⟨h0, h1⟩ := own_nat hn
  obtain ⟨T', h', cA, X', e', E, A, st⟩ := newP X hx hZ w eT hg hd hs h0 (cap := cap) (by omega) hb hc hl
  exact own_up st (k T' h' _ rfl X' e' E ⟨_, A, by simp [newA, h1], by simp; omega⟩)
theorem own_in {ty : FieldType} {vs : List Value} {cl : Cell} {j : Int32} {i : Nat} (hv : cl.slots.toList = vs) (hj : j.toInt = i) (hi : i < vs.length) : ¬ (j < 0 ∨ cl.slots.size ≤ j.toNatClampNeg) := by
  obtain ⟨h0, h1⟩ := own_nat hj
  subst hv
  rintro (q | q)
  · exact h0 q
  · rw [h1] at q; simp at hi; omega
theorem own_Al_set {h h' : Heap} {a : Addr} {cl : Cell} {ty : FieldType} {vs : List Value} {j : Int32} {i : Nat} {v : Value} (A : Arr Z h a cl ty) (hv : cl.slots.toList = vs) (hl : vs.length < 2 ^ 31) (hj : j.toInt = i) (W : Wr h h' a j.toNatClampNeg v) : own_Al Z h' a ty (vs.set i v) := by
  obtain ⟨h0, h1⟩ := own_nat hj
  rw [h1] at W
  exact ⟨_, A.same W, by simp [Cell.setSlot, hv], by simpa using hl⟩
theorem own_sti (X : Stand p l e R s m args below meth c T locs cells slots) (hx : p.tables.exec = Jvm.exec) (hZ : Z.Warmed39 s.vm) (eT : T.heap = h) {a : Addr} {vs : List Value} (A : own_Al Z h a .int vs) {j x : Int32} (i : Nat) {g g' : JFrame} {rest : List Value} (hd : decode c.code g.pc = .ok (.iastore, 1)) (hj : j.toInt = i) (hi : i < vs.length) (hg : g.method = m) (hs : g.stack = .int x :: .int j :: .ref a :: rest) (hg' : { g with pc := g.pc + 1, stack := rest } = g')
    (k : ∀ T' h', Stand p l e R s m args below meth c T' (locs ++ [⟨a, j.toNatClampNeg⟩]) cells slots → T'.heap = h' → Wr h h' a j.toNatClampNeg (.int x) → own_Al Z h' a .int (vs.set i (.int x)) → own_Ends p e below s Q kc ks (T'.setTop g')) : own_Ends p e below s Q kc ks (T.setTop g) := by
  subst hg'
  obtain ⟨cl, A, hv, hl⟩ := A
  obtain ⟨T', h', X', e', W, st⟩ := stI X hx hZ eT A (own_in (ty := .int) hv hj hi) hg hs hd
  exact own_up st (k T' h' X' e' W (own_Al_set A hv hl hj W))
theorem own_stj (X : Stand p l e R s m args below meth c T locs cells slots) (hx : p.tables.exec = Jvm.exec) (hZ : Z.Warmed39 s.vm) (eT : T.heap = h) {a : Addr} {vs : List Value} (A : own_Al Z h a .long vs) {j : Int32} {x : Int64} (i : Nat) {g g' : JFrame} {rest : List Value} (hd : decode c.code g.pc = .ok (.lastore, 1)) (hj : j.toInt = i) (hi : i < vs.length) (hg : g.method = m) (hs : g.stack = .long x :: .int j :: .ref a :: rest) (hg' : { g with pc := g.pc + 1, stack := rest } = g')
    (k : ∀ T' h', Stand p l e R s m args below meth c T' (locs ++ [⟨a, j.toNatClampNeg⟩]) cells slots → T'.heap = h' → Wr h h' a j.toNatClampNeg (.long x) → own_Al Z h' a .long (vs.set i (.long x)) → own_Ends p e below s Q kc ks (T'.setTop g')) : own_Ends p e below s Q kc ks (T.setTop g) := by
  subst hg'
  obtain ⟨cl, A, hv, hl⟩ := A
  obtain ⟨T', h', X', e', W, st⟩ := stJ X hx hZ eT A (own_in (ty := .long) hv hj hi) hg hs hd
  exact own_up st (k T' h' X' e' W (own_Al_set A hv hl hj W))
theorem own_stb (X : Stand p l e R s m args below meth c T locs cells slots) (hx : p.tables.exec = Jvm.exec) (hZ : Z.Warmed39 s.vm) (eT : T.heap = h) {a : Addr} {vs : List Value} (A : own_Al Z h a .byte vs) {j x : Int32} (i : Nat) {g g' : JFrame} {rest : List Value} (hd : decode c.code g.pc = .ok (.bastore, 1)) (hj : j.toInt = i) (hi : i < vs.length) (hg : g.method = m) (hs : g.stack = .int x :: .int j :: .ref a :: rest) (hg' : { g with pc := g.pc + 1, stack := rest } = g')
    (k : ∀ T' h', Stand p l e R s m args below meth c T' (locs ++ [⟨a, j.toNatClampNeg⟩]) cells slots → T'.heap = h' → Wr h h' a j.toNatClampNeg (.int (nar .byte x)) → own_Al Z h' a .byte (vs.set i (.int (nar .byte x))) → own_Ends p e below s Q kc ks (T'.setTop g')) : own_Ends p e below s Q kc ks (T.setTop g) := by
  subst hg'
  obtain ⟨cl, A, hv, hl⟩ := A
  obtain ⟨T', h', X', e', W, st⟩ := stB X hx hZ eT A (own_in (ty := .byte) hv hj hi) hg hs hd
  exact own_up st (k T' h' X' e' W (own_Al_set A hv hl hj W))
theorem own_at {vs : List Value} {cl : Cell} {j : Int32} {i : Nat} {v : Value} (hv : cl.slots.toList = vs) (hj : j.toInt = i) (hi : vs[i]? = some v) : cl.slots[j.toNatClampNeg]? = some v := by
  rw [(own_nat hj).2, ← Array.getElem?_toList, hv]; exact hi
theorem own_ldi (X : Stand p l e R s m args below meth c T locs cells slots) (hx : p.tables.exec = Jvm.exec) (hZ : Z.Warmed39 s.vm) (eT : T.heap = h) {a : Addr} {vs : List Value} (A : own_Al Z h a .int vs) {j : Int32} {v : Value} (i : Nat) {g g' : JFrame} {rest : List Value} (hd : decode c.code g.pc = .ok (.iaload, 1)) (hj : j.toInt = i) (hi : vs[i]? = some v) (hg : g.method = m) (hs : g.stack = .int j :: .ref a :: rest) (hg' : { g with pc := g.pc + 1, stack := v :: rest } = g')
    (k : own_Ends p e below s Q kc ks (T.setTop g')) : own_Ends p e below s Q kc ks (T.setTop g) := by
  subst hg'
  obtain ⟨cl, A, hv, hl⟩ := A
  exact own_up (fun t => X.iaload hx (by rw [eT]; exact A.1) (State.isArrayOf_alike hZ.alike A.2.1) A.2.2 (own_in (ty := .int) hv hj (List.getElem?_eq_some_iff.mp hi).1) (own_at hv hj hi) hg hs hd t) k
theorem own_ldj (X : Stand p l e R s m args below meth c T locs cells slots) (hx : p.tables.exec = Jvm.exec) (hZ : Z.Warmed39 s.vm) (eT : T.heap = h) {a : Addr} {vs : List Value} (A : own_Al Z h a .long vs) {j : Int32} {v : Value} (i : Nat) {g g' : JFrame} {rest : List Value} (hd : decode c.code g.pc = .ok (.laload, 1)) (hj : j.toInt = i) (hi : vs[i]? = some v) (hg : g.method = m) (hs : g.stack = .int j :: .ref a :: rest) (hg' : { g with pc := g.pc + 1, stack := v :: rest } = g')
    (k : own_Ends p e below s Q kc ks (T.setTop g')) : own_Ends p e below s Q kc ks (T.setTop g) := by
  subst hg'
  obtain ⟨cl, A, hv, hl⟩ := A
  exact own_up (fun t => X.laload hx (by rw [eT]; exact A.1) (State.isArrayOf_alike hZ.alike A.2.1) A.2.2 (own_in (ty := .long) hv hj (List.getElem?_eq_some_iff.mp hi).1) (own_at hv hj hi) hg hs hd t) k
theorem own_ldb (X : Stand p l e R s m args below meth c T locs cells slots) (hx : p.tables.exec = Jvm.exec) (hZ : Z.Warmed39 s.vm) (eT : T.heap = h) {a : Addr} {vs : List Value} (A : own_Al Z h a .byte vs) {j : Int32} {v : Value} (i : Nat) {g g' : JFrame} {rest : List Value} (hd : decode c.code g.pc = .ok (.baload, 1)) (hj : j.toInt = i) (hi : vs[i]? = some v) (hg : g.method = m) (hs : g.stack = .int j :: .ref a :: rest) (hg' : { g with pc := g.pc + 1, stack := v :: rest } = g')
    (k : own_Ends p e below s Q kc ks (T.setTop g')) : own_Ends p e below s Q kc ks (T.setTop g) := by
  subst hg'
  obtain ⟨cl, A, hv, hl⟩ := A
  exact own_up (fun t => X.baloadBytes hx (by rw [eT]; exact A.1) (State.isArrayOf_alike hZ.alike A.2.1) A.2.2 (own_in (ty := .byte) hv hj (List.getElem?_eq_some_iff.mp hi).1) (own_at hv hj hi) hg hs hd t) k
theorem own_len (X : Stand p l e R s m args below meth c T locs cells slots) (hx : p.tables.exec = Jvm.exec) (hZ : Z.Warmed39 s.vm) (eT : T.heap = h) {a : Addr} {ty : FieldType} {vs : List Value} (A : own_Al Z h a ty vs) {g g' : JFrame} {rest : List Value} (z : Int32) (hd : decode c.code g.pc = .ok (.arraylength, 1)) (hz : z.toInt = vs.length) (hg : g.method = m) (hs : g.stack = .ref a :: rest) (hg' : { g with pc := g.pc + 1, stack := .int z :: rest } = g')
    (k : own_Ends p e below s Q kc ks (T.setTop g')) : own_Ends p e below s Q kc ks (T.setTop g) := by
  subst hg'
  obtain ⟨cl, A, hv, hl⟩ := A
  have q : cl.slots.size.toInt32 = z := by
    apply Int32.toInt_inj.mp
    have h2 : cl.slots.size = vs.length := by rw [← hv]; simp
    rw [hz, h2, len_toInt hl]
  exact own_up (fun t => X.arraylength hx (by rw [eT]; exact A.1) (State.isArrayOf_alike hZ.alike A.2.1) hg hs hd t) (by rw [q]; exact k)
end Own
theorem own_uo (x : Int32) : (((x % (256 : Int32)) + (256 : Int32)) % (256 : Int32)).toInt = x.toInt % 256 := by
  have h1 := c_irem x (256 : Int32) 256 rfl
  have h2 := c_iadd (x % (256 : Int32)) (256 : Int32)
  have h3 := c_irem ((x % (256 : Int32)) + (256 : Int32)) (256 : Int32) 256 rfl
  have z : (256 : Int32).toInt = 256 := rfl
  rw [z] at h2
  have r1 := rng32 x
  have r2 := rng32 (x % (256 : Int32))
  have r3 := rng32 ((x % (256 : Int32)) + (256 : Int32))
  have r4 := rng32 (((x % (256 : Int32)) + (256 : Int32)) % (256 : Int32))
  omega
theorem own_m3 (x : Int32) : ((x &&& (2147483647 : Int32)) % (3 : Int32)) = 0 ∨ ((x &&& (2147483647 : Int32)) % (3 : Int32)) = 1 ∨ ((x &&& (2147483647 : Int32)) % (3 : Int32)) = 2 := by
  have h1 : (x &&& (2147483647 : Int32)).toInt = x.toInt % 2147483648 := c_mask x (2147483647 : Int32) 31 (by decide) (by decide)
  have h2 := (c_irem (x &&& (2147483647 : Int32)) (3 : Int32) 3 rfl).1 (by omega)
  have z0 : (0 : Int32).toInt = 0 := rfl
  have z1 : (1 : Int32).toInt = 1 := rfl
  have z2 : (2 : Int32).toInt = 2 := rfl
  simp only [← Int32.toInt_inj]
  omega
theorem own_nb (x : Int32) : (nar .byte x.toInt8.toInt32 &&& (255 : Int32)).toInt = x.toInt % 256 := by
  have h1 : (nar .byte x.toInt8.toInt32 &&& (255 : Int32)).toInt = (nar .byte x.toInt8.toInt32).toInt % 256 := c_mask _ (255 : Int32) 8 (by decide) (by decide)
  have h2 := c_i2b x
  have h3 := c_i2b x.toInt8.toInt32
  have h4 : nar .byte x.toInt8.toInt32 = x.toInt8.toInt32.toInt8.toInt32 := rfl
  rw [h1, h4]
  omega
theorem own_u16 (a b : Int32) : (((nar .byte a.toInt8.toInt32 &&& (255 : Int32)) <<< ((8 : Int32) &&& 31)) ||| (nar .byte b.toInt8.toInt32 &&& (255 : Int32))).toInt = (a.toInt % 256) * 256 + b.toInt % 256 := by
  have h1 := own_nb a
  have h2 := own_nb b
  generalize (nar .byte a.toInt8.toInt32 &&& (255 : Int32)) = u at *
  generalize (nar .byte b.toInt8.toInt32 &&& (255 : Int32)) = w at *
  have h3 : ((u <<< ((8 : Int32) &&& 31)).toInt - u.toInt * 256) % 4294967296 = 0 := c_ishl u (8 : Int32) 8 (by decide)
  have h4 := rng32 (u <<< ((8 : Int32) &&& 31))
  have h5 := c_or (u <<< ((8 : Int32) &&& 31)) w 8 (by decide) 256 rfl (by omega) (by omega) (by omega)
  have h6 := rng32 ((u <<< ((8 : Int32) &&& 31)) ||| w)
  omega
theorem own_exp {a b u w : Int32} (h1 : u.toInt = a.toInt % 256) (h2 : w.toInt = b.toInt % 256) : ((u * (256 : Int32)) + w).toInt = (a.toInt % 256) * 256 + b.toInt % 256 := by
  have h3 := c_imul u (256 : Int32)
  have h4 := c_iadd (u * (256 : Int32)) w
  have z : (256 : Int32).toInt = 256 := rfl
  rw [z] at h3
  have r1 := rng32 (u * (256 : Int32))
  have r2 := rng32 ((u * (256 : Int32)) + w)
  omega
theorem own_pd0 : parseMethodDescriptor "(I)I" = some ⟨[.int], some .int⟩ := by decide +kernel
theorem own_pd1 : parseMethodDescriptor "([BI)I" = some ⟨[(.array .byte), .int], some .int⟩ := by decide +kernel
theorem d1_0 : decode method_2_code 0 = .ok (.iload_n 0, 1) := by decide +kernel
theorem d1_1 : decode method_2_code 1 = .ok (.sipush 256, 3) := by decide +kernel
theorem d1_4 : decode method_2_code 4 = .ok (.irem, 1) := by decide +kernel
theorem d1_5 : decode method_2_code 5 = .ok (.sipush 256, 3) := by decide +kernel
theorem d1_8 : decode method_2_code 8 = .ok (.iadd, 1) := by decide +kernel
theorem d1_9 : decode method_2_code 9 = .ok (.sipush 256, 3) := by decide +kernel
theorem d1_12 : decode method_2_code 12 = .ok (.irem, 1) := by decide +kernel
theorem d1_13 : decode method_2_code 13 = .ok (.ireturn, 1) := by decide +kernel
def own_R1 : Room := { frames := 0, cells := 0, slots := 0, locals := 0 }
theorem own_ef1 (p0 : Int32) (m : MethodId) : entryFrame m #[(.int p0)] 1 = mkF m 0 #[.val (.int p0)] [] := by first | (simp [entryFrame, mkF, argsToLocals, Value.category]; done) | rfl
def own_Q1 (Z : State) (p0 : Int32)  (h0 : Heap) (n0 : Nat) (v : Option Value) (h : Heap) (L : List Loc) : Prop := ∃ r : Int32, v = some (.int r) ∧ (r.toInt = p0.toInt % 256) ∧ Fr n0 L ∧ h = h0
set_option maxRecDepth 65536 in
set_option maxHeartbeats 40000000 in
theorem rm1 (l : Launch) (Z : State) (a0 : Array Value) (hw : ∀ d ∈ tables_1, d.before a0 Z = true) (ws : List Jvm.Cond) (p0 : Int32)  (h0 : Heap) (n0 : Nat) (Z0 : n0 ≤ h0.size)  :
    MetFree l (⟨"com/example/wireloom/bench/HandWrittenDnsDecoderU16PinLaw", "unsignedOf", "(I)I"⟩ : MethodName) (head1 (Jvm.Cond.code (⟨"com/example/wireloom/bench/HandWrittenDnsDecoderU16PinLaw", "unsignedOf", "(I)I"⟩ : MethodName) method_2_code 1 (some .int) :: ws) own_R1) (fun a U => a = #[(.int p0)] ∧ Z.Warmed39 U.vm ∧ U.heap = h0) (fun _ _ _ _ _ => True) (fun _ U o U' => ∃ v L, o = .returned v ∧ own_Q1 Z p0 h0 n0 v U'.heap L ∧ FrameEnd U o U' L own_R1.cells own_R1.slots) := by
  refine own_met (Q := own_Q1 Z p0 h0 n0) (plainFor_of_name (by first | (simp [plainName, overriddenIn]; done) | decide +kernel)) (own_ef1 p0) ?_
  intro p e s m below meth c T0 hx hby hml hown hnm hret hlk hZ e0 X0
  have N0 := Fr.nil n0
  refine own_up (S' := T0.setTop (mkF m 1 #[.val (.int p0)] [(.int p0)])) (fun t kk => XS.iloadN X0.here hx rfl (hb hby d1_0) rfl kk) ?_
  refine own_up (S' := T0.setTop (mkF m 4 #[.val (.int p0)] [(.int (256 : Int32)), (.int p0)])) (fun t kk => XT.sipushV X0.here hx rfl (256 : Int32) (hb hby d1_1) rfl kk) ?_
  refine own_up (S' := T0.setTop (mkF m 5 #[.val (.int p0)] [(.int (p0 % (256 : Int32)))])) (fun t kk => iremM X0 hx rfl (hb hby d1_4) rfl (by decide) kk) ?_
  refine own_up (S' := T0.setTop (mkF m 8 #[.val (.int p0)] [(.int (256 : Int32)), (.int (p0 % (256 : Int32)))])) (fun t kk => XT.sipushV X0.here hx rfl (256 : Int32) (hb hby d1_5) rfl kk) ?_
  refine own_up (S' := T0.setTop (mkF m 9 #[.val (.int p0)] [(.int ((p0 % (256 : Int32)) + (256 : Int32)))])) (fun t kk => XS.iadd X0.here hx rfl (hb hby d1_8) rfl kk) ?_
  refine own_up (S' := T0.setTop (mkF m 12 #[.val (.int p0)] [(.int (256 : Int32)), (.int ((p0 % (256 : Int32)) + (256 : Int32)))])) (fun t kk => XT.sipushV X0.here hx rfl (256 : Int32) (hb hby d1_9) rfl kk) ?_
  refine own_up (S' := T0.setTop (mkF m 13 #[.val (.int p0)] [(.int (((p0 % (256 : Int32)) + (256 : Int32)) % (256 : Int32)))])) (fun t kk => iremM X0 hx rfl (hb hby d1_12) rfl (by decide) kk) ?_
  refine own_retI X0 hx hlk hret (hb hby d1_13) (by decide) (by decide) ?_
  show own_Q1 Z p0 h0 n0 _ T0.heap _
  rw [e0]
  exact ⟨(((p0 % (256 : Int32)) + (256 : Int32)) % (256 : Int32)), rfl, own_uo p0, N0, rfl⟩
theorem d2_0 : decode prog_1_method_3_code 0 = .ok (.aload_n 0, 1) := by decide +kernel
theorem d2_1 : decode prog_1_method_3_code 1 = .ok (.iload_n 1, 1) := by decide +kernel
theorem d2_2 : decode prog_1_method_3_code 2 = .ok (.baload, 1) := by decide +kernel
theorem d2_3 : decode prog_1_method_3_code 3 = .ok (.sipush 255, 3) := by decide +kernel
theorem d2_6 : decode prog_1_method_3_code 6 = .ok (.iand, 1) := by decide +kernel
theorem d2_7 : decode prog_1_method_3_code 7 = .ok (.bipush 8, 2) := by decide +kernel
theorem d2_9 : decode prog_1_method_3_code 9 = .ok (.ishl, 1) := by decide +kernel
theorem d2_10 : decode prog_1_method_3_code 10 = .ok (.aload_n 0, 1) := by decide +kernel
theorem d2_11 : decode prog_1_method_3_code 11 = .ok (.iload_n 1, 1) := by decide +kernel
theorem d2_12 : decode prog_1_method_3_code 12 = .ok (.iconst 1, 1) := by decide +kernel
theorem d2_13 : decode prog_1_method_3_code 13 = .ok (.iadd, 1) := by decide +kernel
theorem d2_14 : decode prog_1_method_3_code 14 = .ok (.baload, 1) := by decide +kernel
theorem d2_15 : decode prog_1_method_3_code 15 = .ok (.sipush 255, 3) := by decide +kernel
theorem d2_18 : decode prog_1_method_3_code 18 = .ok (.iand, 1) := by decide +kernel
theorem d2_19 : decode prog_1_method_3_code 19 = .ok (.ior, 1) := by decide +kernel
theorem d2_20 : decode prog_1_method_3_code 20 = .ok (.ireturn, 1) := by decide +kernel
def own_R2 : Room := { frames := 0, cells := 0, slots := 0, locals := 0 }
theorem own_ef2 (p0 : Addr) (p1 : Int32) (m : MethodId) : entryFrame m #[(.ref p0), (.int p1)] 2 = mkF m 0 #[.val (.ref p0), .val (.int p1)] [] := by first | (simp [entryFrame, mkF, argsToLocals, Value.category]; done) | rfl
def own_Q2 (Z : State) (p0 : Addr) (p1 : Int32) (vs : List Value) (ix : Nat) (xb : Int32) (yb : Int32) (h0 : Heap) (n0 : Nat) (v : Option Value) (h : Heap) (L : List Loc) : Prop := v = some (.int (((xb &&& (255 : Int32)) <<< ((8 : Int32) &&& 31)) ||| (yb &&& (255 : Int32)))) ∧ Fr n0 L ∧ h = h0
set_option maxRecDepth 65536 in
set_option maxHeartbeats 40000000 in
theorem rm2 (l : Launch) (Z : State) (a0 : Array Value) (hw : ∀ d ∈ tables_1, d.before a0 Z = true) (ws : List Jvm.Cond) (p0 : Addr) (p1 : Int32) (vs : List Value) (ix : Nat) (xb : Int32) (yb : Int32) (h0 : Heap) (n0 : Nat) (Z0 : n0 ≤ h0.size) (Ap : own_Al Z h0 p0 .byte vs) (hj : p1.toInt = (ix : Int)) (hj1 : (p1 + (1 : Int32)).toInt = ((ix + 1 : Nat) : Int)) (hv : vs[ix]? = some (.int xb)) (hv1 : vs[ix + 1]? = some (.int yb)) :
    MetFree l (⟨"com/example/wireloom/bench/HandWrittenDnsDecoder", "u16", "([BI)I"⟩ : MethodName) (head1 (Jvm.Cond.code (⟨"com/example/wireloom/bench/HandWrittenDnsDecoder", "u16", "([BI)I"⟩ : MethodName) prog_1_method_3_code 2 (some .int) :: ws) own_R2) (fun a U => a = #[(.ref p0), (.int p1)] ∧ Z.Warmed39 U.vm ∧ U.heap = h0) (fun _ _ _ _ _ => True) (fun _ U o U' => ∃ v L, o = .returned v ∧ own_Q2 Z p0 p1 vs ix xb yb h0 n0 v U'.heap L ∧ FrameEnd U o U' L own_R2.cells own_R2.slots) := by
  refine own_met (Q := own_Q2 Z p0 p1 vs ix xb yb h0 n0) (plainFor_of_name (by first | (simp [plainName, overriddenIn]; done) | decide +kernel)) (own_ef2 p0 p1) ?_
  intro p e s m below meth c T0 hx hby hml hown hnm hret hlk hZ e0 X0
  have N0 := Fr.nil n0
  refine own_up (S' := T0.setTop (mkF m 1 #[.val (.ref p0), .val (.int p1)] [(.ref p0)])) (fun t kk => XS.aloadN X0.here hx rfl (hb hby d2_0) rfl rfl kk) ?_
  refine own_up (S' := T0.setTop (mkF m 2 #[.val (.ref p0), .val (.int p1)] [(.int p1), (.ref p0)])) (fun t kk => XS.iloadN X0.here hx rfl (hb hby d2_1) rfl kk) ?_
  refine own_ldb X0 hx hZ e0 Ap (v := (.int xb)) ix (hb hby d2_2) (hj) (hv) rfl rfl (g' := (mkF m 3 #[.val (.ref p0), .val (.int p1)] [(.int xb)])) rfl ?_
  refine own_up (S' := T0.setTop (mkF m 6 #[.val (.ref p0), .val (.int p1)] [(.int (255 : Int32)), (.int xb)])) (fun t kk => XT.sipushV X0.here hx rfl (255 : Int32) (hb hby d2_3) rfl kk) ?_
  refine own_up (S' := T0.setTop (mkF m 7 #[.val (.ref p0), .val (.int p1)] [(.int (xb &&& (255 : Int32)))])) (fun t kk => XS.iand X0.here hx rfl (hb hby d2_6) rfl kk) ?_
  refine own_up (S' := T0.setTop (mkF m 9 #[.val (.ref p0), .val (.int p1)] [(.int (8 : Int32)), (.int (xb &&& (255 : Int32)))])) (fun t kk => XT.bipushV X0.here hx rfl (8 : Int32) (hb hby d2_7) rfl kk) ?_
  refine own_up (S' := T0.setTop (mkF m 10 #[.val (.ref p0), .val (.int p1)] [(.int ((xb &&& (255 : Int32)) <<< ((8 : Int32) &&& 31)))])) (fun t kk => XT.ishl X0.here hx rfl (hb hby d2_9) rfl kk) ?_
  refine own_up (S' := T0.setTop (mkF m 11 #[.val (.ref p0), .val (.int p1)] [(.ref p0), (.int ((xb &&& (255 : Int32)) <<< ((8 : Int32) &&& 31)))])) (fun t kk => XS.aloadN X0.here hx rfl (hb hby d2_10) rfl rfl kk) ?_
  refine own_up (S' := T0.setTop (mkF m 12 #[.val (.ref p0), .val (.int p1)] [(.int p1), (.ref p0), (.int ((xb &&& (255 : Int32)) <<< ((8 : Int32) &&& 31)))])) (fun t kk => XS.iloadN X0.here hx rfl (hb hby d2_11) rfl kk) ?_
  refine own_up (S' := T0.setTop (mkF m 13 #[.val (.ref p0), .val (.int p1)] [(.int (1 : Int32)), (.int p1), (.ref p0), (.int ((xb &&& (255 : Int32)) <<< ((8 : Int32) &&& 31)))])) (fun t kk => XT.iconstV X0.here hx rfl (1 : Int32) (hb hby d2_12) rfl kk) ?_
  refine own_up (S' := T0.setTop (mkF m 14 #[.val (.ref p0), .val (.int p1)] [(.int (p1 + (1 : Int32))), (.ref p0), (.int ((xb &&& (255 : Int32)) <<< ((8 : Int32) &&& 31)))])) (fun t kk => XS.iadd X0.here hx rfl (hb hby d2_13) rfl kk) ?_
  refine own_ldb X0 hx hZ e0 Ap (v := (.int yb)) ((ix + 1)) (hb hby d2_14) (hj1) (hv1) rfl rfl (g' := (mkF m 15 #[.val (.ref p0), .val (.int p1)] [(.int yb), (.int ((xb &&& (255 : Int32)) <<< ((8 : Int32) &&& 31)))])) rfl ?_
  refine own_up (S' := T0.setTop (mkF m 18 #[.val (.ref p0), .val (.int p1)] [(.int (255 : Int32)), (.int yb), (.int ((xb &&& (255 : Int32)) <<< ((8 : Int32) &&& 31)))])) (fun t kk => XT.sipushV X0.here hx rfl (255 : Int32) (hb hby d2_15) rfl kk) ?_
  refine own_up (S' := T0.setTop (mkF m 19 #[.val (.ref p0), .val (.int p1)] [(.int (yb &&& (255 : Int32))), (.int ((xb &&& (255 : Int32)) <<< ((8 : Int32) &&& 31)))])) (fun t kk => XS.iand X0.here hx rfl (hb hby d2_18) rfl kk) ?_
  refine own_up (S' := T0.setTop (mkF m 20 #[.val (.ref p0), .val (.int p1)] [(.int (((xb &&& (255 : Int32)) <<< ((8 : Int32) &&& 31)) ||| (yb &&& (255 : Int32))))])) (fun t kk => XT.ior X0.here hx rfl (hb hby d2_19) rfl kk) ?_
  refine own_retI X0 hx hlk hret (hb hby d2_20) (by decide) (by decide) ?_
  show own_Q2 Z p0 p1 vs ix xb yb h0 n0 _ T0.heap _
  rw [e0]
  exact ⟨rfl, N0, rfl⟩
theorem own_ef0 (a1 : Int32) (b1 : Int32) (c1 : Int32) (d1 : Int32) (i1 : Int32) (m : MethodId) : entryFrame m #[(.int a1), (.int b1), (.int c1), (.int d1), (.int i1)] maxLocals = mkF m 0 #[.val (.int a1), .val (.int b1), .val (.int c1), .val (.int d1), .val (.int i1), .unset, .unset, .unset, .unset, .unset] [] := by first | (simp [entryFrame, mkF, argsToLocals, Value.category, maxLocals]; done) | rfl
def own_Q0 (Z : State) (a1 : Int32) (b1 : Int32) (c1 : Int32) (d1 : Int32) (i1 : Int32)  (h0 : Heap) (n0 : Nat) (v : Option Value) (h : Heap) (L : List Loc) : Prop := v = some (.int 1) ∧ Fr n0 L
set_option maxRecDepth 65536 in
set_option maxHeartbeats 40000000 in
theorem rm0 (l : Launch) (Z : State) (a0 : Array Value) (hw : ∀ d ∈ tables_1, d.before a0 Z = true) (ws : List Jvm.Cond) (a1 : Int32) (b1 : Int32) (c1 : Int32) (d1 : Int32) (i1 : Int32)  (h0 : Heap) (n0 : Nat) (Z0 : n0 ≤ h0.size)  :
    MetFree l x (head1 (Jvm.Cond.code x code maxLocals ret :: ws) room_1) (fun a U => a = #[(.int a1), (.int b1), (.int c1), (.int d1), (.int i1)] ∧ Z.Warmed39 U.vm ∧ U.heap = h0) (fun _ _ _ _ _ => True) (fun _ U o U' => ∃ v L, o = .returned v ∧ own_Q0 Z a1 b1 c1 d1 i1 h0 n0 v U'.heap L ∧ FrameEnd U o U' L room_1.cells room_1.slots) := by
  refine own_met (Q := own_Q0 Z a1 b1 c1 d1 i1 h0 n0) (plainFor_of_name (by first | (simp [plainName, overriddenIn, x]; done) | decide +kernel)) (own_ef0 a1 b1 c1 d1 i1) ?_
  intro p e s m below meth c T0 hx hby hml hown hnm hret hlk hZ e0 X0
  have hown : s.vm.findClass "com/example/wireloom/bench/HandWrittenDnsDecoderU16PinLaw" = some m.cls := hown
  have N0 := Fr.nil n0
  refine own_up (S' := T0.setTop (mkF m 1 #[.val (.int a1), .val (.int b1), .val (.int c1), .val (.int d1), .val (.int i1), .unset, .unset, .unset, .unset, .unset] [(.int (4 : Int32))])) (fun t kk => XT.iconstV X0.here hx rfl (4 : Int32) (hb hby at_0) rfl kk) ?_
  refine own_newa X0 hx hZ (ty := .byte) rfl (hw _ (List.mem_of_getElem? (i := 0) rfl)) e0 4 (hb hby at_1) (rfl) 4 (by decide) (by decide) (by decide) (by decide) rfl rfl ?_
  intro T1 h1 ad1 hb1 X1 e1 E1 A1
  have g_ad1 : n0 ≤ ad1 := Nat.le_trans Z0 (Nat.le_of_eq hb1.symm)
  have Zn2 := Nat.le_trans Z0 E1.1
  have Al1 : own_Al Z h1 ad1 .byte [(.int (0 : Int32)), (.int (0 : Int32)), (.int (0 : Int32)), (.int (0 : Int32))] := A1
  show own_Ends p e below s (own_Q0 Z a1 b1 c1 d1 i1 h0 n0) room_1.cells room_1.slots (T1.setTop (mkF m 3 #[.val (.int a1), .val (.int b1), .val (.int c1), .val (.int d1), .val (.int i1), .unset, .unset, .unset, .unset, .unset] [(.ref ad1)]))
  refine own_up (S' := T1.setTop (mkF m 4 #[.val (.int a1), .val (.int b1), .val (.int c1), .val (.int d1), .val (.int i1), .unset, .unset, .unset, .unset, .unset] [(.ref ad1), (.ref ad1)])) (fun t kk => XS.dup X1.here hx rfl (hb hby at_3) rfl rfl kk) ?_
  refine own_up (S' := T1.setTop (mkF m 5 #[.val (.int a1), .val (.int b1), .val (.int c1), .val (.int d1), .val (.int i1), .unset, .unset, .unset, .unset, .unset] [(.int (0 : Int32)), (.ref ad1), (.ref ad1)])) (fun t kk => XT.iconstV X1.here hx rfl (0 : Int32) (hb hby at_4) rfl kk) ?_
  refine own_up (S' := T1.setTop (mkF m 6 #[.val (.int a1), .val (.int b1), .val (.int c1), .val (.int d1), .val (.int i1), .unset, .unset, .unset, .unset, .unset] [(.int a1), (.int (0 : Int32)), (.ref ad1), (.ref ad1)])) (fun t kk => XS.iloadN X1.here hx rfl (hb hby at_5) rfl kk) ?_
  refine own_up (S' := T1.setTop (mkF m 7 #[.val (.int a1), .val (.int b1), .val (.int c1), .val (.int d1), .val (.int i1), .unset, .unset, .unset, .unset, .unset] [(.int a1.toInt8.toInt32), (.int (0 : Int32)), (.ref ad1), (.ref ad1)])) (fun t kk => XT.i2b X1.here hx rfl (hb hby at_6) rfl kk) ?_
  refine own_stb X1 hx hZ e1 Al1 0 (hb hby at_7) (rfl) (Nat.le_of_ble_eq_true rfl) rfl rfl (g' := (mkF m 8 #[.val (.int a1), .val (.int b1), .val (.int c1), .val (.int d1), .val (.int i1), .unset, .unset, .unset, .unset, .unset] [(.ref ad1)])) rfl ?_
  intro T4 h4 X4 e4 W4 B4
  have Zn5 := Nat.le_trans Zn2 (Nat.le_of_eq W4.size.symm)
  have N4 := Fr.snoc X4 N0 g_ad1
  have Al4 : own_Al Z h4 ad1 .byte [(.int (nar .byte a1.toInt8.toInt32)), (.int (0 : Int32)), (.int (0 : Int32)), (.int (0 : Int32))] := B4
  refine own_up (S' := T4.setTop (mkF m 9 #[.val (.int a1), .val (.int b1), .val (.int c1), .val (.int d1), .val (.int i1), .unset, .unset, .unset, .unset, .unset] [(.ref ad1), (.ref ad1)])) (fun t kk => XS.dup X4.here hx rfl (hb hby at_8) rfl rfl kk) ?_
  refine own_up (S' := T4.setTop (mkF m 10 #[.val (.int a1), .val (.int b1), .val (.int c1), .val (.int d1), .val (.int i1), .unset, .unset, .unset, .unset, .unset] [(.int (1 : Int32)), (.ref ad1), (.ref ad1)])) (fun t kk => XT.iconstV X4.here hx rfl (1 : Int32) (hb hby at_9) rfl kk) ?_
  refine own_up (S' := T4.setTop (mkF m 11 #[.val (.int a1), .val (.int b1), .val (.int c1), .val (.int d1), .val (.int i1), .unset, .unset, .unset, .unset, .unset] [(.int b1), (.int (1 : Int32)), (.ref ad1), (.ref ad1)])) (fun t kk => XS.iloadN X4.here hx rfl (hb hby at_10) rfl kk) ?_
  refine own_up (S' := T4.setTop (mkF m 12 #[.val (.int a1), .val (.int b1), .val (.int c1), .val (.int d1), .val (.int i1), .unset, .unset, .unset, .unset, .unset] [(.int b1.toInt8.toInt32), (.int (1 : Int32)), (.ref ad1), (.ref ad1)])) (fun t kk => XT.i2b X4.here hx rfl (hb hby at_11) rfl kk) ?_
  refine own_stb X4 hx hZ e4 Al4 1 (hb hby at_12) (rfl) (Nat.le_of_ble_eq_true rfl) rfl rfl (g' := (mkF m 13 #[.val (.int a1), .val (.int b1), .val (.int c1), .val (.int d1), .val (.int i1), .unset, .unset, .unset, .unset, .unset] [(.ref ad1)])) rfl ?_
  intro T7 h7 X7 e7 W7 B7
  have Zn8 := Nat.le_trans Zn5 (Nat.le_of_eq W7.size.symm)
  have N7 := Fr.snoc X7 N4 g_ad1
  have Al7 : own_Al Z h7 ad1 .byte [(.int (nar .byte a1.toInt8.toInt32)), (.int (nar .byte b1.toInt8.toInt32)), (.int (0 : Int32)), (.int (0 : Int32))] := B7
  refine own_up (S' := T7.setTop (mkF m 14 #[.val (.int a1), .val (.int b1), .val (.int c1), .val (.int d1), .val (.int i1), .unset, .unset, .unset, .unset, .unset] [(.ref ad1), (.ref ad1)])) (fun t kk => XS.dup X7.here hx rfl (hb hby at_13) rfl rfl kk) ?_
  refine own_up (S' := T7.setTop (mkF m 15 #[.val (.int a1), .val (.int b1), .val (.int c1), .val (.int d1), .val (.int i1), .unset, .unset, .unset, .unset, .unset] [(.int (2 : Int32)), (.ref ad1), (.ref ad1)])) (fun t kk => XT.iconstV X7.here hx rfl (2 : Int32) (hb hby at_14) rfl kk) ?_
  refine own_up (S' := T7.setTop (mkF m 16 #[.val (.int a1), .val (.int b1), .val (.int c1), .val (.int d1), .val (.int i1), .unset, .unset, .unset, .unset, .unset] [(.int c1), (.int (2 : Int32)), (.ref ad1), (.ref ad1)])) (fun t kk => XS.iloadN X7.here hx rfl (hb hby at_15) rfl kk) ?_
  refine own_up (S' := T7.setTop (mkF m 17 #[.val (.int a1), .val (.int b1), .val (.int c1), .val (.int d1), .val (.int i1), .unset, .unset, .unset, .unset, .unset] [(.int c1.toInt8.toInt32), (.int (2 : Int32)), (.ref ad1), (.ref ad1)])) (fun t kk => XT.i2b X7.here hx rfl (hb hby at_16) rfl kk) ?_
  refine own_stb X7 hx hZ e7 Al7 2 (hb hby at_17) (rfl) (Nat.le_of_ble_eq_true rfl) rfl rfl (g' := (mkF m 18 #[.val (.int a1), .val (.int b1), .val (.int c1), .val (.int d1), .val (.int i1), .unset, .unset, .unset, .unset, .unset] [(.ref ad1)])) rfl ?_
  intro T10 h10 X10 e10 W10 B10
  have Zn11 := Nat.le_trans Zn8 (Nat.le_of_eq W10.size.symm)
  have N10 := Fr.snoc X10 N7 g_ad1
  have Al10 : own_Al Z h10 ad1 .byte [(.int (nar .byte a1.toInt8.toInt32)), (.int (nar .byte b1.toInt8.toInt32)), (.int (nar .byte c1.toInt8.toInt32)), (.int (0 : Int32))] := B10
  refine own_up (S' := T10.setTop (mkF m 19 #[.val (.int a1), .val (.int b1), .val (.int c1), .val (.int d1), .val (.int i1), .unset, .unset, .unset, .unset, .unset] [(.ref ad1), (.ref ad1)])) (fun t kk => XS.dup X10.here hx rfl (hb hby at_18) rfl rfl kk) ?_
  refine own_up (S' := T10.setTop (mkF m 20 #[.val (.int a1), .val (.int b1), .val (.int c1), .val (.int d1), .val (.int i1), .unset, .unset, .unset, .unset, .unset] [(.int (3 : Int32)), (.ref ad1), (.ref ad1)])) (fun t kk => XT.iconstV X10.here hx rfl (3 : Int32) (hb hby at_19) rfl kk) ?_
  refine own_up (S' := T10.setTop (mkF m 21 #[.val (.int a1), .val (.int b1), .val (.int c1), .val (.int d1), .val (.int i1), .unset, .unset, .unset, .unset, .unset] [(.int d1), (.int (3 : Int32)), (.ref ad1), (.ref ad1)])) (fun t kk => XS.iloadN X10.here hx rfl (hb hby at_20) rfl kk) ?_
  refine own_up (S' := T10.setTop (mkF m 22 #[.val (.int a1), .val (.int b1), .val (.int c1), .val (.int d1), .val (.int i1), .unset, .unset, .unset, .unset, .unset] [(.int d1.toInt8.toInt32), (.int (3 : Int32)), (.ref ad1), (.ref ad1)])) (fun t kk => XT.i2b X10.here hx rfl (hb hby at_21) rfl kk) ?_
  refine own_stb X10 hx hZ e10 Al10 3 (hb hby at_22) (rfl) (Nat.le_of_ble_eq_true rfl) rfl rfl (g' := (mkF m 23 #[.val (.int a1), .val (.int b1), .val (.int c1), .val (.int d1), .val (.int i1), .unset, .unset, .unset, .unset, .unset] [(.ref ad1)])) rfl ?_
  intro T13 h13 X13 e13 W13 B13
  have Zn14 := Nat.le_trans Zn11 (Nat.le_of_eq W13.size.symm)
  have N13 := Fr.snoc X13 N10 g_ad1
  have Al13 : own_Al Z h13 ad1 .byte [(.int (nar .byte a1.toInt8.toInt32)), (.int (nar .byte b1.toInt8.toInt32)), (.int (nar .byte c1.toInt8.toInt32)), (.int (nar .byte d1.toInt8.toInt32))] := B13
  refine own_up (S' := T13.setTop (mkF m 25 #[.val (.int a1), .val (.int b1), .val (.int c1), .val (.int d1), .val (.int i1), .val (.ref ad1), .unset, .unset, .unset, .unset] [])) (fun t kk => XS.astore X13.here hx rfl (hb hby at_23) rfl rfl (l' := #[.val (.int a1), .val (.int b1), .val (.int c1), .val (.int d1), .val (.int i1), .val (.ref ad1), .unset, .unset, .unset, .unset]) rfl kk) ?_
  refine own_up (S' := T13.setTop (mkF m 26 #[.val (.int a1), .val (.int b1), .val (.int c1), .val (.int d1), .val (.int i1), .val (.ref ad1), .unset, .unset, .unset, .unset] [(.int (4 : Int32))])) (fun t kk => XT.iconstV X13.here hx rfl (4 : Int32) (hb hby at_25) rfl kk) ?_
  refine own_newa X13 hx hZ (ty := .int) rfl (hw _ (List.mem_of_getElem? (i := 1) rfl)) e13 4 (hb hby at_26) (rfl) 4 (by decide) (by decide) (by decide) (by decide) rfl rfl ?_
  intro T16 h16 ad16 hb16 X16 e16 E16 A16
  have ne16_ad1_ad16 : ad1 ≠ ad16 := Nat.ne_of_lt (Nat.lt_of_lt_of_eq (own_Al_lt Al13) hb16.symm)
  have g_ad16 : n0 ≤ ad16 := Nat.le_trans Zn14 (Nat.le_of_eq hb16.symm)
  have Zn17 := Nat.le_trans Zn14 E16.1
  have Al13_18 := own_Al_ext E16 Al13
  have Al16 : own_Al Z h16 ad16 .int [(.int (0 : Int32)), (.int (0 : Int32)), (.int (0 : Int32)), (.int (0 : Int32))] := A16
  show own_Ends p e below s (own_Q0 Z a1 b1 c1 d1 i1 h0 n0) room_1.cells room_1.slots (T16.setTop (mkF m 28 #[.val (.int a1), .val (.int b1), .val (.int c1), .val (.int d1), .val (.int i1), .val (.ref ad1), .unset, .unset, .unset, .unset] [(.ref ad16)]))
  refine own_up (S' := T16.setTop (mkF m 29 #[.val (.int a1), .val (.int b1), .val (.int c1), .val (.int d1), .val (.int i1), .val (.ref ad1), .unset, .unset, .unset, .unset] [(.ref ad16), (.ref ad16)])) (fun t kk => XS.dup X16.here hx rfl (hb hby at_28) rfl rfl kk) ?_
  refine own_up (S' := T16.setTop (mkF m 30 #[.val (.int a1), .val (.int b1), .val (.int c1), .val (.int d1), .val (.int i1), .val (.ref ad1), .unset, .unset, .unset, .unset] [(.int (0 : Int32)), (.ref ad16), (.ref ad16)])) (fun t kk => XT.iconstV X16.here hx rfl (0 : Int32) (hb hby at_29) rfl kk) ?_
  refine own_up (S' := T16.setTop (mkF m 31 #[.val (.int a1), .val (.int b1), .val (.int c1), .val (.int d1), .val (.int i1), .val (.ref ad1), .unset, .unset, .unset, .unset] [(.int a1), (.int (0 : Int32)), (.ref ad16), (.ref ad16)])) (fun t kk => XS.iloadN X16.here hx rfl (hb hby at_30) rfl kk) ?_
  refine own_callS X16 hx hZ hown (hw _ (List.mem_of_getElem? (i := 2) rfl)) (hw _ (List.mem_of_getElem? (i := 3) rfl)) (hw _ (List.mem_of_getElem? (i := 4) rfl)) (hw _ (List.mem_of_getElem? (i := 5) rfl)) (by decide) e16 (rm1 l Z a0 hw [] a1 h16 n0 Zn17 ) 3 [(.int a1)] [(.int (0 : Int32)), (.ref ad16), (.ref ad16)] (hb hby at_31) (lenOf own_pd0 rfl) (by decide) (by decide) (by decide) (by decide) rfl (by rw [hml]; rfl) rfl (by show 2 * 0 + _ ≤ _; exact Nat.le_of_eq rfl) rfl ?_
  intro T19 L19 r19 X19 q19
  obtain ⟨u0, rfl, hr_u0, M19, e19⟩ := q19
  have N19 := Fr.app N13 M19
  show own_Ends p e below s (own_Q0 Z a1 b1 c1 d1 i1 h0 n0) room_1.cells room_1.slots (T19.setTop (mkF m 34 #[.val (.int a1), .val (.int b1), .val (.int c1), .val (.int d1), .val (.int i1), .val (.ref ad1), .unset, .unset, .unset, .unset] [(.int u0), (.int (0 : Int32)), (.ref ad16), (.ref ad16)]))
  refine own_sti X19 hx hZ e19 Al16 0 (hb hby at_34) (rfl) (Nat.le_of_ble_eq_true rfl) rfl rfl (g' := (mkF m 35 #[.val (.int a1), .val (.int b1), .val (.int c1), .val (.int d1), .val (.int i1), .val (.ref ad1), .unset, .unset, .unset, .unset] [(.ref ad16)])) rfl ?_
  intro T20 h20 X20 e20 W20 B20
  have Zn21 := Nat.le_trans Zn17 (Nat.le_of_eq W20.size.symm)
  have Al13_22 := own_Al_oth W20 Al13_18 ne16_ad1_ad16
  have N20 := Fr.snoc X20 N19 g_ad16
  have Al20 : own_Al Z h20 ad16 .int [(.int u0), (.int (0 : Int32)), (.int (0 : Int32)), (.int (0 : Int32))] := B20
  refine own_up (S' := T20.setTop (mkF m 36 #[.val (.int a1), .val (.int b1), .val (.int c1), .val (.int d1), .val (.int i1), .val (.ref ad1), .unset, .unset, .unset, .unset] [(.ref ad16), (.ref ad16)])) (fun t kk => XS.dup X20.here hx rfl (hb hby at_35) rfl rfl kk) ?_
  refine own_up (S' := T20.setTop (mkF m 37 #[.val (.int a1), .val (.int b1), .val (.int c1), .val (.int d1), .val (.int i1), .val (.ref ad1), .unset, .unset, .unset, .unset] [(.int (1 : Int32)), (.ref ad16), (.ref ad16)])) (fun t kk => XT.iconstV X20.here hx rfl (1 : Int32) (hb hby at_36) rfl kk) ?_
  refine own_up (S' := T20.setTop (mkF m 38 #[.val (.int a1), .val (.int b1), .val (.int c1), .val (.int d1), .val (.int i1), .val (.ref ad1), .unset, .unset, .unset, .unset] [(.int b1), (.int (1 : Int32)), (.ref ad16), (.ref ad16)])) (fun t kk => XS.iloadN X20.here hx rfl (hb hby at_37) rfl kk) ?_
  refine own_callS X20 hx hZ hown (hw _ (List.mem_of_getElem? (i := 2) rfl)) (hw _ (List.mem_of_getElem? (i := 3) rfl)) (hw _ (List.mem_of_getElem? (i := 4) rfl)) (hw _ (List.mem_of_getElem? (i := 5) rfl)) (by decide) e20 (rm1 l Z a0 hw [] b1 h20 n0 Zn21 ) 3 [(.int b1)] [(.int (1 : Int32)), (.ref ad16), (.ref ad16)] (hb hby at_38) (lenOf own_pd0 rfl) (by decide) (by decide) (by decide) (by decide) rfl (by rw [hml]; rfl) rfl (by show 2 * 0 + _ ≤ _; exact Nat.le_of_eq rfl) rfl ?_
  intro T23 L23 r23 X23 q23
  obtain ⟨u1, rfl, hr_u1, M23, e23⟩ := q23
  have N23 := Fr.app N20 M23
  show own_Ends p e below s (own_Q0 Z a1 b1 c1 d1 i1 h0 n0) room_1.cells room_1.slots (T23.setTop (mkF m 41 #[.val (.int a1), .val (.int b1), .val (.int c1), .val (.int d1), .val (.int i1), .val (.ref ad1), .unset, .unset, .unset, .unset] [(.int u1), (.int (1 : Int32)), (.ref ad16), (.ref ad16)]))
  refine own_sti X23 hx hZ e23 Al20 1 (hb hby at_41) (rfl) (Nat.le_of_ble_eq_true rfl) rfl rfl (g' := (mkF m 42 #[.val (.int a1), .val (.int b1), .val (.int c1), .val (.int d1), .val (.int i1), .val (.ref ad1), .unset, .unset, .unset, .unset] [(.ref ad16)])) rfl ?_
  intro T24 h24 X24 e24 W24 B24
  have Zn25 := Nat.le_trans Zn21 (Nat.le_of_eq W24.size.symm)
  have Al13_26 := own_Al_oth W24 Al13_22 ne16_ad1_ad16
  have N24 := Fr.snoc X24 N23 g_ad16
  have Al24 : own_Al Z h24 ad16 .int [(.int u0), (.int u1), (.int (0 : Int32)), (.int (0 : Int32))] := B24
  refine own_up (S' := T24.setTop (mkF m 43 #[.val (.int a1), .val (.int b1), .val (.int c1), .val (.int d1), .val (.int i1), .val (.ref ad1), .unset, .unset, .unset, .unset] [(.ref ad16), (.ref ad16)])) (fun t kk => XS.dup X24.here hx rfl (hb hby at_42) rfl rfl kk) ?_
  refine own_up (S' := T24.setTop (mkF m 44 #[.val (.int a1), .val (.int b1), .val (.int c1), .val (.int d1), .val (.int i1), .val (.ref ad1), .unset, .unset, .unset, .unset] [(.int (2 : Int32)), (.ref ad16), (.ref ad16)])) (fun t kk => XT.iconstV X24.here hx rfl (2 : Int32) (hb hby at_43) rfl kk) ?_
  refine own_up (S' := T24.setTop (mkF m 45 #[.val (.int a1), .val (.int b1), .val (.int c1), .val (.int d1), .val (.int i1), .val (.ref ad1), .unset, .unset, .unset, .unset] [(.int c1), (.int (2 : Int32)), (.ref ad16), (.ref ad16)])) (fun t kk => XS.iloadN X24.here hx rfl (hb hby at_44) rfl kk) ?_
  refine own_callS X24 hx hZ hown (hw _ (List.mem_of_getElem? (i := 2) rfl)) (hw _ (List.mem_of_getElem? (i := 3) rfl)) (hw _ (List.mem_of_getElem? (i := 4) rfl)) (hw _ (List.mem_of_getElem? (i := 5) rfl)) (by decide) e24 (rm1 l Z a0 hw [] c1 h24 n0 Zn25 ) 3 [(.int c1)] [(.int (2 : Int32)), (.ref ad16), (.ref ad16)] (hb hby at_45) (lenOf own_pd0 rfl) (by decide) (by decide) (by decide) (by decide) rfl (by rw [hml]; rfl) rfl (by show 2 * 0 + _ ≤ _; exact Nat.le_of_eq rfl) rfl ?_
  intro T27 L27 r27 X27 q27
  obtain ⟨u2, rfl, hr_u2, M27, e27⟩ := q27
  have N27 := Fr.app N24 M27
  show own_Ends p e below s (own_Q0 Z a1 b1 c1 d1 i1 h0 n0) room_1.cells room_1.slots (T27.setTop (mkF m 48 #[.val (.int a1), .val (.int b1), .val (.int c1), .val (.int d1), .val (.int i1), .val (.ref ad1), .unset, .unset, .unset, .unset] [(.int u2), (.int (2 : Int32)), (.ref ad16), (.ref ad16)]))
  refine own_sti X27 hx hZ e27 Al24 2 (hb hby at_48) (rfl) (Nat.le_of_ble_eq_true rfl) rfl rfl (g' := (mkF m 49 #[.val (.int a1), .val (.int b1), .val (.int c1), .val (.int d1), .val (.int i1), .val (.ref ad1), .unset, .unset, .unset, .unset] [(.ref ad16)])) rfl ?_
  intro T28 h28 X28 e28 W28 B28
  have Zn29 := Nat.le_trans Zn25 (Nat.le_of_eq W28.size.symm)
  have Al13_30 := own_Al_oth W28 Al13_26 ne16_ad1_ad16
  have N28 := Fr.snoc X28 N27 g_ad16
  have Al28 : own_Al Z h28 ad16 .int [(.int u0), (.int u1), (.int u2), (.int (0 : Int32))] := B28
  refine own_up (S' := T28.setTop (mkF m 50 #[.val (.int a1), .val (.int b1), .val (.int c1), .val (.int d1), .val (.int i1), .val (.ref ad1), .unset, .unset, .unset, .unset] [(.ref ad16), (.ref ad16)])) (fun t kk => XS.dup X28.here hx rfl (hb hby at_49) rfl rfl kk) ?_
  refine own_up (S' := T28.setTop (mkF m 51 #[.val (.int a1), .val (.int b1), .val (.int c1), .val (.int d1), .val (.int i1), .val (.ref ad1), .unset, .unset, .unset, .unset] [(.int (3 : Int32)), (.ref ad16), (.ref ad16)])) (fun t kk => XT.iconstV X28.here hx rfl (3 : Int32) (hb hby at_50) rfl kk) ?_
  refine own_up (S' := T28.setTop (mkF m 52 #[.val (.int a1), .val (.int b1), .val (.int c1), .val (.int d1), .val (.int i1), .val (.ref ad1), .unset, .unset, .unset, .unset] [(.int d1), (.int (3 : Int32)), (.ref ad16), (.ref ad16)])) (fun t kk => XS.iloadN X28.here hx rfl (hb hby at_51) rfl kk) ?_
  refine own_callS X28 hx hZ hown (hw _ (List.mem_of_getElem? (i := 2) rfl)) (hw _ (List.mem_of_getElem? (i := 3) rfl)) (hw _ (List.mem_of_getElem? (i := 4) rfl)) (hw _ (List.mem_of_getElem? (i := 5) rfl)) (by decide) e28 (rm1 l Z a0 hw [] d1 h28 n0 Zn29 ) 3 [(.int d1)] [(.int (3 : Int32)), (.ref ad16), (.ref ad16)] (hb hby at_52) (lenOf own_pd0 rfl) (by decide) (by decide) (by decide) (by decide) rfl (by rw [hml]; rfl) rfl (by show 2 * 0 + _ ≤ _; exact Nat.le_of_eq rfl) rfl ?_
  intro T31 L31 r31 X31 q31
  obtain ⟨u3, rfl, hr_u3, M31, e31⟩ := q31
  have N31 := Fr.app N28 M31
  show own_Ends p e below s (own_Q0 Z a1 b1 c1 d1 i1 h0 n0) room_1.cells room_1.slots (T31.setTop (mkF m 55 #[.val (.int a1), .val (.int b1), .val (.int c1), .val (.int d1), .val (.int i1), .val (.ref ad1), .unset, .unset, .unset, .unset] [(.int u3), (.int (3 : Int32)), (.ref ad16), (.ref ad16)]))
  refine own_sti X31 hx hZ e31 Al28 3 (hb hby at_55) (rfl) (Nat.le_of_ble_eq_true rfl) rfl rfl (g' := (mkF m 56 #[.val (.int a1), .val (.int b1), .val (.int c1), .val (.int d1), .val (.int i1), .val (.ref ad1), .unset, .unset, .unset, .unset] [(.ref ad16)])) rfl ?_
  intro T32 h32 X32 e32 W32 B32
  have Zn33 := Nat.le_trans Zn29 (Nat.le_of_eq W32.size.symm)
  have Al13_34 := own_Al_oth W32 Al13_30 ne16_ad1_ad16
  have N32 := Fr.snoc X32 N31 g_ad16
  have Al32 : own_Al Z h32 ad16 .int [(.int u0), (.int u1), (.int u2), (.int u3)] := B32
  refine own_up (S' := T32.setTop (mkF m 58 #[.val (.int a1), .val (.int b1), .val (.int c1), .val (.int d1), .val (.int i1), .val (.ref ad1), .val (.ref ad16), .unset, .unset, .unset] [])) (fun t kk => XS.astore X32.here hx rfl (hb hby at_56) rfl rfl (l' := #[.val (.int a1), .val (.int b1), .val (.int c1), .val (.int d1), .val (.int i1), .val (.ref ad1), .val (.ref ad16), .unset, .unset, .unset]) rfl kk) ?_
  refine own_up (S' := T32.setTop (mkF m 60 #[.val (.int a1), .val (.int b1), .val (.int c1), .val (.int d1), .val (.int i1), .val (.ref ad1), .val (.ref ad16), .unset, .unset, .unset] [(.int i1)])) (fun t kk => XS.iload X32.here hx rfl (hb hby at_58) rfl kk) ?_
  refine own_up (S' := T32.setTop (mkF m 62 #[.val (.int a1), .val (.int b1), .val (.int c1), .val (.int d1), .val (.int i1), .val (.ref ad1), .val (.ref ad16), .unset, .unset, .unset] [(.int (2147483647 : Int32)), (.int i1)])) (fun t kk => X32.ldcI hx hown (mvT hZ (hw _ (List.mem_of_getElem? (i := 6) rfl))) rfl (hb hby at_60) kk) ?_
  refine own_up (S' := T32.setTop (mkF m 63 #[.val (.int a1), .val (.int b1), .val (.int c1), .val (.int d1), .val (.int i1), .val (.ref ad1), .val (.ref ad16), .unset, .unset, .unset] [(.int (i1 &&& (2147483647 : Int32)))])) (fun t kk => XS.iand X32.here hx rfl (hb hby at_62) rfl kk) ?_
  refine own_up (S' := T32.setTop (mkF m 64 #[.val (.int a1), .val (.int b1), .val (.int c1), .val (.int d1), .val (.int i1), .val (.ref ad1), .val (.ref ad16), .unset, .unset, .unset] [(.int (3 : Int32)), (.int (i1 &&& (2147483647 : Int32)))])) (fun t kk => XT.iconstV X32.here hx rfl (3 : Int32) (hb hby at_63) rfl kk) ?_
  refine own_up (S' := T32.setTop (mkF m 65 #[.val (.int a1), .val (.int b1), .val (.int c1), .val (.int d1), .val (.int i1), .val (.ref ad1), .val (.ref ad16), .unset, .unset, .unset] [(.int ((i1 &&& (2147483647 : Int32)) % (3 : Int32)))])) (fun t kk => iremM X32 hx rfl (hb hby at_64) rfl (by decide) kk) ?_
  obtain ⟨idx, h_idx⟩ : ∃ z : Int32, z = ((i1 &&& (2147483647 : Int32)) % (3 : Int32)) := ⟨_, rfl⟩
  rw [← h_idx]
  refine own_up (S' := T32.setTop (mkF m 67 #[.val (.int a1), .val (.int b1), .val (.int c1), .val (.int d1), .val (.int i1), .val (.ref ad1), .val (.ref ad16), .val (.int idx), .unset, .unset] [])) (fun t kk => XS.istore X32.here hx rfl (hb hby at_65) rfl (l' := #[.val (.int a1), .val (.int b1), .val (.int c1), .val (.int d1), .val (.int i1), .val (.ref ad1), .val (.ref ad16), .val (.int idx), .unset, .unset]) rfl kk) ?_
  have h3 := own_m3 i1
  rw [← h_idx] at h3
  clear h_idx
  rcases h3 with rfl | rfl | rfl
  · refine own_up (S' := T32.setTop (mkF m 69 #[.val (.int a1), .val (.int b1), .val (.int c1), .val (.int d1), .val (.int i1), .val (.ref ad1), .val (.ref ad16), .val (.int (0 : Int32)), .unset, .unset] [(.ref ad16)])) (fun t kk => XS.aload X32.here hx rfl (hb hby at_67) rfl rfl kk) ?_
    refine own_up (S' := T32.setTop (mkF m 71 #[.val (.int a1), .val (.int b1), .val (.int c1), .val (.int d1), .val (.int i1), .val (.ref ad1), .val (.ref ad16), .val (.int (0 : Int32)), .unset, .unset] [(.int (0 : Int32)), (.ref ad16)])) (fun t kk => XS.iload X32.here hx rfl (hb hby at_69) rfl kk) ?_
    refine own_ldi X32 hx hZ e32 Al32 (v := (.int u0)) 0 (hb hby at_71) (rfl) (rfl) rfl rfl (g' := (mkF m 72 #[.val (.int a1), .val (.int b1), .val (.int c1), .val (.int d1), .val (.int i1), .val (.ref ad1), .val (.ref ad16), .val (.int (0 : Int32)), .unset, .unset] [(.int u0)])) rfl ?_
    refine own_up (S' := T32.setTop (mkF m 75 #[.val (.int a1), .val (.int b1), .val (.int c1), .val (.int d1), .val (.int i1), .val (.ref ad1), .val (.ref ad16), .val (.int (0 : Int32)), .unset, .unset] [(.int (256 : Int32)), (.int u0)])) (fun t kk => XT.sipushV X32.here hx rfl (256 : Int32) (hb hby at_72) rfl kk) ?_
    refine own_up (S' := T32.setTop (mkF m 76 #[.val (.int a1), .val (.int b1), .val (.int c1), .val (.int d1), .val (.int i1), .val (.ref ad1), .val (.ref ad16), .val (.int (0 : Int32)), .unset, .unset] [(.int (u0 * (256 : Int32)))])) (fun t kk => XS.imul X32.here hx rfl (hb hby at_75) rfl kk) ?_
    refine own_up (S' := T32.setTop (mkF m 78 #[.val (.int a1), .val (.int b1), .val (.int c1), .val (.int d1), .val (.int i1), .val (.ref ad1), .val (.ref ad16), .val (.int (0 : Int32)), .unset, .unset] [(.ref ad16), (.int (u0 * (256 : Int32)))])) (fun t kk => XS.aload X32.here hx rfl (hb hby at_76) rfl rfl kk) ?_
    refine own_up (S' := T32.setTop (mkF m 80 #[.val (.int a1), .val (.int b1), .val (.int c1), .val (.int d1), .val (.int i1), .val (.ref ad1), .val (.ref ad16), .val (.int (0 : Int32)), .unset, .unset] [(.int (0 : Int32)), (.ref ad16), (.int (u0 * (256 : Int32)))])) (fun t kk => XS.iload X32.here hx rfl (hb hby at_78) rfl kk) ?_
    refine own_up (S' := T32.setTop (mkF m 81 #[.val (.int a1), .val (.int b1), .val (.int c1), .val (.int d1), .val (.int i1), .val (.ref ad1), .val (.ref ad16), .val (.int (0 : Int32)), .unset, .unset] [(.int (1 : Int32)), (.int (0 : Int32)), (.ref ad16), (.int (u0 * (256 : Int32)))])) (fun t kk => XT.iconstV X32.here hx rfl (1 : Int32) (hb hby at_80) rfl kk) ?_
    refine own_up (S' := T32.setTop (mkF m 82 #[.val (.int a1), .val (.int b1), .val (.int c1), .val (.int d1), .val (.int i1), .val (.ref ad1), .val (.ref ad16), .val (.int (0 : Int32)), .unset, .unset] [(.int ((0 : Int32) + (1 : Int32))), (.ref ad16), (.int (u0 * (256 : Int32)))])) (fun t kk => XS.iadd X32.here hx rfl (hb hby at_81) rfl kk) ?_
    refine own_ldi X32 hx hZ e32 Al32 (v := (.int u1)) 1 (hb hby at_82) (rfl) (rfl) rfl rfl (g' := (mkF m 83 #[.val (.int a1), .val (.int b1), .val (.int c1), .val (.int d1), .val (.int i1), .val (.ref ad1), .val (.ref ad16), .val (.int (0 : Int32)), .unset, .unset] [(.int u1), (.int (u0 * (256 : Int32)))])) rfl ?_
    refine own_up (S' := T32.setTop (mkF m 84 #[.val (.int a1), .val (.int b1), .val (.int c1), .val (.int d1), .val (.int i1), .val (.ref ad1), .val (.ref ad16), .val (.int (0 : Int32)), .unset, .unset] [(.int ((u0 * (256 : Int32)) + u1))])) (fun t kk => XS.iadd X32.here hx rfl (hb hby at_83) rfl kk) ?_
    obtain ⟨exq, h_exq⟩ : ∃ z : Int32, z = ((u0 * (256 : Int32)) + u1) := ⟨_, rfl⟩
    rw [← h_exq]
    refine own_up (S' := T32.setTop (mkF m 86 #[.val (.int a1), .val (.int b1), .val (.int c1), .val (.int d1), .val (.int i1), .val (.ref ad1), .val (.ref ad16), .val (.int (0 : Int32)), .val (.int exq), .unset] [])) (fun t kk => XS.istore X32.here hx rfl (hb hby at_84) rfl (l' := #[.val (.int a1), .val (.int b1), .val (.int c1), .val (.int d1), .val (.int i1), .val (.ref ad1), .val (.ref ad16), .val (.int (0 : Int32)), .val (.int exq), .unset]) rfl kk) ?_
    refine own_up (S' := T32.setTop (mkF m 88 #[.val (.int a1), .val (.int b1), .val (.int c1), .val (.int d1), .val (.int i1), .val (.ref ad1), .val (.ref ad16), .val (.int (0 : Int32)), .val (.int exq), .unset] [(.ref ad1)])) (fun t kk => XS.aload X32.here hx rfl (hb hby at_86) rfl rfl kk) ?_
    refine own_up (S' := T32.setTop (mkF m 90 #[.val (.int a1), .val (.int b1), .val (.int c1), .val (.int d1), .val (.int i1), .val (.ref ad1), .val (.ref ad16), .val (.int (0 : Int32)), .val (.int exq), .unset] [(.int (0 : Int32)), (.ref ad1)])) (fun t kk => XS.iload X32.here hx rfl (hb hby at_88) rfl kk) ?_
    refine own_callS X32 hx hZ hown (hw _ (List.mem_of_getElem? (i := 7) rfl)) (hw _ (List.mem_of_getElem? (i := 8) rfl)) (hw _ (List.mem_of_getElem? (i := 9) rfl)) (hw _ (List.mem_of_getElem? (i := 10) rfl)) (by decide) e32 (rm2 l Z a0 hw [] ad1 (0 : Int32) [(.int (nar .byte a1.toInt8.toInt32)), (.int (nar .byte b1.toInt8.toInt32)), (.int (nar .byte c1.toInt8.toInt32)), (.int (nar .byte d1.toInt8.toInt32))] (0) (nar .byte a1.toInt8.toInt32) (nar .byte b1.toInt8.toInt32) h32 n0 Zn33 Al13_34 (rfl) (rfl) (rfl) (rfl)) 0 [(.ref ad1), (.int (0 : Int32))] [] (hb hby at_90) (lenOf own_pd1 rfl) (by decide) (by decide) (by decide) (by decide) rfl (by rw [hml]; rfl) rfl (by show 2 * 0 + _ ≤ _; exact Nat.le_of_eq rfl) rfl ?_
    intro T35 L35 r35 X35 q35
    obtain ⟨rfl, M35, e35⟩ := q35
    have N35 := Fr.app N32 M35
    show own_Ends p e below s (own_Q0 Z a1 b1 c1 d1 i1 h0 n0) room_1.cells room_1.slots (T35.setTop (mkF m 93 #[.val (.int a1), .val (.int b1), .val (.int c1), .val (.int d1), .val (.int i1), .val (.ref ad1), .val (.ref ad16), .val (.int (0 : Int32)), .val (.int exq), .unset] [(.int ((((nar .byte a1.toInt8.toInt32) &&& (255 : Int32)) <<< ((8 : Int32) &&& 31)) ||| ((nar .byte b1.toInt8.toInt32) &&& (255 : Int32))))]))
    obtain ⟨got, h_got⟩ : ∃ z : Int32, z = ((((nar .byte a1.toInt8.toInt32) &&& (255 : Int32)) <<< ((8 : Int32) &&& 31)) ||| ((nar .byte b1.toInt8.toInt32) &&& (255 : Int32))) := ⟨_, rfl⟩
    rw [← h_got]
    refine own_up (S' := T35.setTop (mkF m 95 #[.val (.int a1), .val (.int b1), .val (.int c1), .val (.int d1), .val (.int i1), .val (.ref ad1), .val (.ref ad16), .val (.int (0 : Int32)), .val (.int exq), .val (.int got)] [])) (fun t kk => XS.istore X35.here hx rfl (hb hby at_93) rfl (l' := #[.val (.int a1), .val (.int b1), .val (.int c1), .val (.int d1), .val (.int i1), .val (.ref ad1), .val (.ref ad16), .val (.int (0 : Int32)), .val (.int exq), .val (.int got)]) rfl kk) ?_
    refine own_up (S' := T35.setTop (mkF m 97 #[.val (.int a1), .val (.int b1), .val (.int c1), .val (.int d1), .val (.int i1), .val (.ref ad1), .val (.ref ad16), .val (.int (0 : Int32)), .val (.int exq), .val (.int got)] [(.int got)])) (fun t kk => XS.iload X35.here hx rfl (hb hby at_95) rfl kk) ?_
    refine own_up (S' := T35.setTop (mkF m 99 #[.val (.int a1), .val (.int b1), .val (.int c1), .val (.int d1), .val (.int i1), .val (.ref ad1), .val (.ref ad16), .val (.int (0 : Int32)), .val (.int exq), .val (.int got)] [(.int exq), (.int got)])) (fun t kk => XS.iload X35.here hx rfl (hb hby at_97) rfl kk) ?_
    have ihc99_36 : got.toInt = exq.toInt := by rw [h_got, h_exq, own_u16 a1 b1, own_exp hr_u0 hr_u1]
    have hc99_36 : got = exq := own_ieq_of ihc99_36
    refine own_up (S' := T35.setTop (mkF m 102 #[.val (.int a1), .val (.int b1), .val (.int c1), .val (.int d1), .val (.int i1), .val (.ref ad1), .val (.ref ad16), .val (.int (0 : Int32)), .val (.int exq), .val (.int got)] [])) (fun t kk => XS.icmpNo X35.here hx rfl (hb hby at_99) rfl (XT.ii_ne_f hc99_36) kk) ?_
    refine own_up (S' := T35.setTop (mkF m 104 #[.val (.int a1), .val (.int b1), .val (.int c1), .val (.int d1), .val (.int i1), .val (.ref ad1), .val (.ref ad16), .val (.int (0 : Int32)), .val (.int exq), .val (.int got)] [(.int got)])) (fun t kk => XS.iload X35.here hx rfl (hb hby at_102) rfl kk) ?_
    have ihc104_37 : 0 ≤ got.toInt := by rw [h_got, own_u16 a1 b1]; omega
    have hc104_37 : ¬ (got < 0) := own_inl_of ihc104_37
    refine own_up (S' := T35.setTop (mkF m 107 #[.val (.int a1), .val (.int b1), .val (.int c1), .val (.int d1), .val (.int i1), .val (.ref ad1), .val (.ref ad16), .val (.int (0 : Int32)), .val (.int exq), .val (.int got)] [])) (fun t kk => XS.ifNo X35.here hx rfl (hb hby at_104) rfl (XT.i0_lt_f hc104_37) kk) ?_
    refine own_up (S' := T35.setTop (mkF m 109 #[.val (.int a1), .val (.int b1), .val (.int c1), .val (.int d1), .val (.int i1), .val (.ref ad1), .val (.ref ad16), .val (.int (0 : Int32)), .val (.int exq), .val (.int got)] [(.int got)])) (fun t kk => XS.iload X35.here hx rfl (hb hby at_107) rfl kk) ?_
    refine own_up (S' := T35.setTop (mkF m 111 #[.val (.int a1), .val (.int b1), .val (.int c1), .val (.int d1), .val (.int i1), .val (.ref ad1), .val (.ref ad16), .val (.int (0 : Int32)), .val (.int exq), .val (.int got)] [(.int (65535 : Int32)), (.int got)])) (fun t kk => X35.ldcI hx hown (mvT hZ (hw _ (List.mem_of_getElem? (i := 11) rfl))) rfl (hb hby at_109) kk) ?_
    have ihc111_38 : got.toInt ≤ 65535 := by rw [h_got, own_u16 a1 b1]; omega
    have hc111_38 : ¬ ((65535 : Int32) < got) := own_inl_of ihc111_38
    refine own_up (S' := T35.setTop (mkF m 114 #[.val (.int a1), .val (.int b1), .val (.int c1), .val (.int d1), .val (.int i1), .val (.ref ad1), .val (.ref ad16), .val (.int (0 : Int32)), .val (.int exq), .val (.int got)] [])) (fun t kk => XS.icmpNo X35.here hx rfl (hb hby at_111) rfl (XT.ii_gt_f hc111_38) kk) ?_
    refine own_up (S' := T35.setTop (mkF m 115 #[.val (.int a1), .val (.int b1), .val (.int c1), .val (.int d1), .val (.int i1), .val (.ref ad1), .val (.ref ad16), .val (.int (0 : Int32)), .val (.int exq), .val (.int got)] [(.int (1 : Int32))])) (fun t kk => XT.iconstV X35.here hx rfl (1 : Int32) (hb hby at_114) rfl kk) ?_
    refine own_up (S' := T35.setTop (mkF m 119 #[.val (.int a1), .val (.int b1), .val (.int c1), .val (.int d1), .val (.int i1), .val (.ref ad1), .val (.ref ad16), .val (.int (0 : Int32)), .val (.int exq), .val (.int got)] [(.int (1 : Int32))])) (fun t kk => XS.goto X35.here hx rfl (pc0 := 115) (pc' := 119) rfl (hb hby at_115) (by decide) (by decide) kk) ?_
    refine own_retN X35 hx hlk (t := .boolean) hret (by simp) (z' := (1 : Int32)) rfl (hb hby at_119) (by decide) (by decide) ?_
    show own_Q0 Z a1 b1 c1 d1 i1 h0 n0 _ T35.heap _
    rw [e35]
    exact ⟨rfl, N35⟩
  · refine own_up (S' := T32.setTop (mkF m 69 #[.val (.int a1), .val (.int b1), .val (.int c1), .val (.int d1), .val (.int i1), .val (.ref ad1), .val (.ref ad16), .val (.int (1 : Int32)), .unset, .unset] [(.ref ad16)])) (fun t kk => XS.aload X32.here hx rfl (hb hby at_67) rfl rfl kk) ?_
    refine own_up (S' := T32.setTop (mkF m 71 #[.val (.int a1), .val (.int b1), .val (.int c1), .val (.int d1), .val (.int i1), .val (.ref ad1), .val (.ref ad16), .val (.int (1 : Int32)), .unset, .unset] [(.int (1 : Int32)), (.ref ad16)])) (fun t kk => XS.iload X32.here hx rfl (hb hby at_69) rfl kk) ?_
    refine own_ldi X32 hx hZ e32 Al32 (v := (.int u1)) 1 (hb hby at_71) (rfl) (rfl) rfl rfl (g' := (mkF m 72 #[.val (.int a1), .val (.int b1), .val (.int c1), .val (.int d1), .val (.int i1), .val (.ref ad1), .val (.ref ad16), .val (.int (1 : Int32)), .unset, .unset] [(.int u1)])) rfl ?_
    refine own_up (S' := T32.setTop (mkF m 75 #[.val (.int a1), .val (.int b1), .val (.int c1), .val (.int d1), .val (.int i1), .val (.ref ad1), .val (.ref ad16), .val (.int (1 : Int32)), .unset, .unset] [(.int (256 : Int32)), (.int u1)])) (fun t kk => XT.sipushV X32.here hx rfl (256 : Int32) (hb hby at_72) rfl kk) ?_
    refine own_up (S' := T32.setTop (mkF m 76 #[.val (.int a1), .val (.int b1), .val (.int c1), .val (.int d1), .val (.int i1), .val (.ref ad1), .val (.ref ad16), .val (.int (1 : Int32)), .unset, .unset] [(.int (u1 * (256 : Int32)))])) (fun t kk => XS.imul X32.here hx rfl (hb hby at_75) rfl kk) ?_
    refine own_up (S' := T32.setTop (mkF m 78 #[.val (.int a1), .val (.int b1), .val (.int c1), .val (.int d1), .val (.int i1), .val (.ref ad1), .val (.ref ad16), .val (.int (1 : Int32)), .unset, .unset] [(.ref ad16), (.int (u1 * (256 : Int32)))])) (fun t kk => XS.aload X32.here hx rfl (hb hby at_76) rfl rfl kk) ?_
    refine own_up (S' := T32.setTop (mkF m 80 #[.val (.int a1), .val (.int b1), .val (.int c1), .val (.int d1), .val (.int i1), .val (.ref ad1), .val (.ref ad16), .val (.int (1 : Int32)), .unset, .unset] [(.int (1 : Int32)), (.ref ad16), (.int (u1 * (256 : Int32)))])) (fun t kk => XS.iload X32.here hx rfl (hb hby at_78) rfl kk) ?_
    refine own_up (S' := T32.setTop (mkF m 81 #[.val (.int a1), .val (.int b1), .val (.int c1), .val (.int d1), .val (.int i1), .val (.ref ad1), .val (.ref ad16), .val (.int (1 : Int32)), .unset, .unset] [(.int (1 : Int32)), (.int (1 : Int32)), (.ref ad16), (.int (u1 * (256 : Int32)))])) (fun t kk => XT.iconstV X32.here hx rfl (1 : Int32) (hb hby at_80) rfl kk) ?_
    refine own_up (S' := T32.setTop (mkF m 82 #[.val (.int a1), .val (.int b1), .val (.int c1), .val (.int d1), .val (.int i1), .val (.ref ad1), .val (.ref ad16), .val (.int (1 : Int32)), .unset, .unset] [(.int ((1 : Int32) + (1 : Int32))), (.ref ad16), (.int (u1 * (256 : Int32)))])) (fun t kk => XS.iadd X32.here hx rfl (hb hby at_81) rfl kk) ?_
    refine own_ldi X32 hx hZ e32 Al32 (v := (.int u2)) 2 (hb hby at_82) (rfl) (rfl) rfl rfl (g' := (mkF m 83 #[.val (.int a1), .val (.int b1), .val (.int c1), .val (.int d1), .val (.int i1), .val (.ref ad1), .val (.ref ad16), .val (.int (1 : Int32)), .unset, .unset] [(.int u2), (.int (u1 * (256 : Int32)))])) rfl ?_
    refine own_up (S' := T32.setTop (mkF m 84 #[.val (.int a1), .val (.int b1), .val (.int c1), .val (.int d1), .val (.int i1), .val (.ref ad1), .val (.ref ad16), .val (.int (1 : Int32)), .unset, .unset] [(.int ((u1 * (256 : Int32)) + u2))])) (fun t kk => XS.iadd X32.here hx rfl (hb hby at_83) rfl kk) ?_
    obtain ⟨exq, h_exq⟩ : ∃ z : Int32, z = ((u1 * (256 : Int32)) + u2) := ⟨_, rfl⟩
    rw [← h_exq]
    refine own_up (S' := T32.setTop (mkF m 86 #[.val (.int a1), .val (.int b1), .val (.int c1), .val (.int d1), .val (.int i1), .val (.ref ad1), .val (.ref ad16), .val (.int (1 : Int32)), .val (.int exq), .unset] [])) (fun t kk => XS.istore X32.here hx rfl (hb hby at_84) rfl (l' := #[.val (.int a1), .val (.int b1), .val (.int c1), .val (.int d1), .val (.int i1), .val (.ref ad1), .val (.ref ad16), .val (.int (1 : Int32)), .val (.int exq), .unset]) rfl kk) ?_
    refine own_up (S' := T32.setTop (mkF m 88 #[.val (.int a1), .val (.int b1), .val (.int c1), .val (.int d1), .val (.int i1), .val (.ref ad1), .val (.ref ad16), .val (.int (1 : Int32)), .val (.int exq), .unset] [(.ref ad1)])) (fun t kk => XS.aload X32.here hx rfl (hb hby at_86) rfl rfl kk) ?_
    refine own_up (S' := T32.setTop (mkF m 90 #[.val (.int a1), .val (.int b1), .val (.int c1), .val (.int d1), .val (.int i1), .val (.ref ad1), .val (.ref ad16), .val (.int (1 : Int32)), .val (.int exq), .unset] [(.int (1 : Int32)), (.ref ad1)])) (fun t kk => XS.iload X32.here hx rfl (hb hby at_88) rfl kk) ?_
    refine own_callS X32 hx hZ hown (hw _ (List.mem_of_getElem? (i := 7) rfl)) (hw _ (List.mem_of_getElem? (i := 8) rfl)) (hw _ (List.mem_of_getElem? (i := 9) rfl)) (hw _ (List.mem_of_getElem? (i := 10) rfl)) (by decide) e32 (rm2 l Z a0 hw [] ad1 (1 : Int32) [(.int (nar .byte a1.toInt8.toInt32)), (.int (nar .byte b1.toInt8.toInt32)), (.int (nar .byte c1.toInt8.toInt32)), (.int (nar .byte d1.toInt8.toInt32))] (1) (nar .byte b1.toInt8.toInt32) (nar .byte c1.toInt8.toInt32) h32 n0 Zn33 Al13_34 (rfl) (rfl) (rfl) (rfl)) 0 [(.ref ad1), (.int (1 : Int32))] [] (hb hby at_90) (lenOf own_pd1 rfl) (by decide) (by decide) (by decide) (by decide) rfl (by rw [hml]; rfl) rfl (by show 2 * 0 + _ ≤ _; exact Nat.le_of_eq rfl) rfl ?_
    intro T39 L39 r39 X39 q39
    obtain ⟨rfl, M39, e39⟩ := q39
    have N39 := Fr.app N32 M39
    show own_Ends p e below s (own_Q0 Z a1 b1 c1 d1 i1 h0 n0) room_1.cells room_1.slots (T39.setTop (mkF m 93 #[.val (.int a1), .val (.int b1), .val (.int c1), .val (.int d1), .val (.int i1), .val (.ref ad1), .val (.ref ad16), .val (.int (1 : Int32)), .val (.int exq), .unset] [(.int ((((nar .byte b1.toInt8.toInt32) &&& (255 : Int32)) <<< ((8 : Int32) &&& 31)) ||| ((nar .byte c1.toInt8.toInt32) &&& (255 : Int32))))]))
    obtain ⟨got, h_got⟩ : ∃ z : Int32, z = ((((nar .byte b1.toInt8.toInt32) &&& (255 : Int32)) <<< ((8 : Int32) &&& 31)) ||| ((nar .byte c1.toInt8.toInt32) &&& (255 : Int32))) := ⟨_, rfl⟩
    rw [← h_got]
    refine own_up (S' := T39.setTop (mkF m 95 #[.val (.int a1), .val (.int b1), .val (.int c1), .val (.int d1), .val (.int i1), .val (.ref ad1), .val (.ref ad16), .val (.int (1 : Int32)), .val (.int exq), .val (.int got)] [])) (fun t kk => XS.istore X39.here hx rfl (hb hby at_93) rfl (l' := #[.val (.int a1), .val (.int b1), .val (.int c1), .val (.int d1), .val (.int i1), .val (.ref ad1), .val (.ref ad16), .val (.int (1 : Int32)), .val (.int exq), .val (.int got)]) rfl kk) ?_
    refine own_up (S' := T39.setTop (mkF m 97 #[.val (.int a1), .val (.int b1), .val (.int c1), .val (.int d1), .val (.int i1), .val (.ref ad1), .val (.ref ad16), .val (.int (1 : Int32)), .val (.int exq), .val (.int got)] [(.int got)])) (fun t kk => XS.iload X39.here hx rfl (hb hby at_95) rfl kk) ?_
    refine own_up (S' := T39.setTop (mkF m 99 #[.val (.int a1), .val (.int b1), .val (.int c1), .val (.int d1), .val (.int i1), .val (.ref ad1), .val (.ref ad16), .val (.int (1 : Int32)), .val (.int exq), .val (.int got)] [(.int exq), (.int got)])) (fun t kk => XS.iload X39.here hx rfl (hb hby at_97) rfl kk) ?_
    have ihc99_40 : got.toInt = exq.toInt := by rw [h_got, h_exq, own_u16 b1 c1, own_exp hr_u1 hr_u2]
    have hc99_40 : got = exq := own_ieq_of ihc99_40
    refine own_up (S' := T39.setTop (mkF m 102 #[.val (.int a1), .val (.int b1), .val (.int c1), .val (.int d1), .val (.int i1), .val (.ref ad1), .val (.ref ad16), .val (.int (1 : Int32)), .val (.int exq), .val (.int got)] [])) (fun t kk => XS.icmpNo X39.here hx rfl (hb hby at_99) rfl (XT.ii_ne_f hc99_40) kk) ?_
    refine own_up (S' := T39.setTop (mkF m 104 #[.val (.int a1), .val (.int b1), .val (.int c1), .val (.int d1), .val (.int i1), .val (.ref ad1), .val (.ref ad16), .val (.int (1 : Int32)), .val (.int exq), .val (.int got)] [(.int got)])) (fun t kk => XS.iload X39.here hx rfl (hb hby at_102) rfl kk) ?_
    have ihc104_41 : 0 ≤ got.toInt := by rw [h_got, own_u16 b1 c1]; omega
    have hc104_41 : ¬ (got < 0) := own_inl_of ihc104_41
    refine own_up (S' := T39.setTop (mkF m 107 #[.val (.int a1), .val (.int b1), .val (.int c1), .val (.int d1), .val (.int i1), .val (.ref ad1), .val (.ref ad16), .val (.int (1 : Int32)), .val (.int exq), .val (.int got)] [])) (fun t kk => XS.ifNo X39.here hx rfl (hb hby at_104) rfl (XT.i0_lt_f hc104_41) kk) ?_
    refine own_up (S' := T39.setTop (mkF m 109 #[.val (.int a1), .val (.int b1), .val (.int c1), .val (.int d1), .val (.int i1), .val (.ref ad1), .val (.ref ad16), .val (.int (1 : Int32)), .val (.int exq), .val (.int got)] [(.int got)])) (fun t kk => XS.iload X39.here hx rfl (hb hby at_107) rfl kk) ?_
    refine own_up (S' := T39.setTop (mkF m 111 #[.val (.int a1), .val (.int b1), .val (.int c1), .val (.int d1), .val (.int i1), .val (.ref ad1), .val (.ref ad16), .val (.int (1 : Int32)), .val (.int exq), .val (.int got)] [(.int (65535 : Int32)), (.int got)])) (fun t kk => X39.ldcI hx hown (mvT hZ (hw _ (List.mem_of_getElem? (i := 11) rfl))) rfl (hb hby at_109) kk) ?_
    have ihc111_42 : got.toInt ≤ 65535 := by rw [h_got, own_u16 b1 c1]; omega
    have hc111_42 : ¬ ((65535 : Int32) < got) := own_inl_of ihc111_42
    refine own_up (S' := T39.setTop (mkF m 114 #[.val (.int a1), .val (.int b1), .val (.int c1), .val (.int d1), .val (.int i1), .val (.ref ad1), .val (.ref ad16), .val (.int (1 : Int32)), .val (.int exq), .val (.int got)] [])) (fun t kk => XS.icmpNo X39.here hx rfl (hb hby at_111) rfl (XT.ii_gt_f hc111_42) kk) ?_
    refine own_up (S' := T39.setTop (mkF m 115 #[.val (.int a1), .val (.int b1), .val (.int c1), .val (.int d1), .val (.int i1), .val (.ref ad1), .val (.ref ad16), .val (.int (1 : Int32)), .val (.int exq), .val (.int got)] [(.int (1 : Int32))])) (fun t kk => XT.iconstV X39.here hx rfl (1 : Int32) (hb hby at_114) rfl kk) ?_
    refine own_up (S' := T39.setTop (mkF m 119 #[.val (.int a1), .val (.int b1), .val (.int c1), .val (.int d1), .val (.int i1), .val (.ref ad1), .val (.ref ad16), .val (.int (1 : Int32)), .val (.int exq), .val (.int got)] [(.int (1 : Int32))])) (fun t kk => XS.goto X39.here hx rfl (pc0 := 115) (pc' := 119) rfl (hb hby at_115) (by decide) (by decide) kk) ?_
    refine own_retN X39 hx hlk (t := .boolean) hret (by simp) (z' := (1 : Int32)) rfl (hb hby at_119) (by decide) (by decide) ?_
    show own_Q0 Z a1 b1 c1 d1 i1 h0 n0 _ T39.heap _
    rw [e39]
    exact ⟨rfl, N39⟩
  · refine own_up (S' := T32.setTop (mkF m 69 #[.val (.int a1), .val (.int b1), .val (.int c1), .val (.int d1), .val (.int i1), .val (.ref ad1), .val (.ref ad16), .val (.int (2 : Int32)), .unset, .unset] [(.ref ad16)])) (fun t kk => XS.aload X32.here hx rfl (hb hby at_67) rfl rfl kk) ?_
    refine own_up (S' := T32.setTop (mkF m 71 #[.val (.int a1), .val (.int b1), .val (.int c1), .val (.int d1), .val (.int i1), .val (.ref ad1), .val (.ref ad16), .val (.int (2 : Int32)), .unset, .unset] [(.int (2 : Int32)), (.ref ad16)])) (fun t kk => XS.iload X32.here hx rfl (hb hby at_69) rfl kk) ?_
    refine own_ldi X32 hx hZ e32 Al32 (v := (.int u2)) 2 (hb hby at_71) (rfl) (rfl) rfl rfl (g' := (mkF m 72 #[.val (.int a1), .val (.int b1), .val (.int c1), .val (.int d1), .val (.int i1), .val (.ref ad1), .val (.ref ad16), .val (.int (2 : Int32)), .unset, .unset] [(.int u2)])) rfl ?_
    refine own_up (S' := T32.setTop (mkF m 75 #[.val (.int a1), .val (.int b1), .val (.int c1), .val (.int d1), .val (.int i1), .val (.ref ad1), .val (.ref ad16), .val (.int (2 : Int32)), .unset, .unset] [(.int (256 : Int32)), (.int u2)])) (fun t kk => XT.sipushV X32.here hx rfl (256 : Int32) (hb hby at_72) rfl kk) ?_
    refine own_up (S' := T32.setTop (mkF m 76 #[.val (.int a1), .val (.int b1), .val (.int c1), .val (.int d1), .val (.int i1), .val (.ref ad1), .val (.ref ad16), .val (.int (2 : Int32)), .unset, .unset] [(.int (u2 * (256 : Int32)))])) (fun t kk => XS.imul X32.here hx rfl (hb hby at_75) rfl kk) ?_
    refine own_up (S' := T32.setTop (mkF m 78 #[.val (.int a1), .val (.int b1), .val (.int c1), .val (.int d1), .val (.int i1), .val (.ref ad1), .val (.ref ad16), .val (.int (2 : Int32)), .unset, .unset] [(.ref ad16), (.int (u2 * (256 : Int32)))])) (fun t kk => XS.aload X32.here hx rfl (hb hby at_76) rfl rfl kk) ?_
    refine own_up (S' := T32.setTop (mkF m 80 #[.val (.int a1), .val (.int b1), .val (.int c1), .val (.int d1), .val (.int i1), .val (.ref ad1), .val (.ref ad16), .val (.int (2 : Int32)), .unset, .unset] [(.int (2 : Int32)), (.ref ad16), (.int (u2 * (256 : Int32)))])) (fun t kk => XS.iload X32.here hx rfl (hb hby at_78) rfl kk) ?_
    refine own_up (S' := T32.setTop (mkF m 81 #[.val (.int a1), .val (.int b1), .val (.int c1), .val (.int d1), .val (.int i1), .val (.ref ad1), .val (.ref ad16), .val (.int (2 : Int32)), .unset, .unset] [(.int (1 : Int32)), (.int (2 : Int32)), (.ref ad16), (.int (u2 * (256 : Int32)))])) (fun t kk => XT.iconstV X32.here hx rfl (1 : Int32) (hb hby at_80) rfl kk) ?_
    refine own_up (S' := T32.setTop (mkF m 82 #[.val (.int a1), .val (.int b1), .val (.int c1), .val (.int d1), .val (.int i1), .val (.ref ad1), .val (.ref ad16), .val (.int (2 : Int32)), .unset, .unset] [(.int ((2 : Int32) + (1 : Int32))), (.ref ad16), (.int (u2 * (256 : Int32)))])) (fun t kk => XS.iadd X32.here hx rfl (hb hby at_81) rfl kk) ?_
    refine own_ldi X32 hx hZ e32 Al32 (v := (.int u3)) 3 (hb hby at_82) (rfl) (rfl) rfl rfl (g' := (mkF m 83 #[.val (.int a1), .val (.int b1), .val (.int c1), .val (.int d1), .val (.int i1), .val (.ref ad1), .val (.ref ad16), .val (.int (2 : Int32)), .unset, .unset] [(.int u3), (.int (u2 * (256 : Int32)))])) rfl ?_
    refine own_up (S' := T32.setTop (mkF m 84 #[.val (.int a1), .val (.int b1), .val (.int c1), .val (.int d1), .val (.int i1), .val (.ref ad1), .val (.ref ad16), .val (.int (2 : Int32)), .unset, .unset] [(.int ((u2 * (256 : Int32)) + u3))])) (fun t kk => XS.iadd X32.here hx rfl (hb hby at_83) rfl kk) ?_
    obtain ⟨exq, h_exq⟩ : ∃ z : Int32, z = ((u2 * (256 : Int32)) + u3) := ⟨_, rfl⟩
    rw [← h_exq]
    refine own_up (S' := T32.setTop (mkF m 86 #[.val (.int a1), .val (.int b1), .val (.int c1), .val (.int d1), .val (.int i1), .val (.ref ad1), .val (.ref ad16), .val (.int (2 : Int32)), .val (.int exq), .unset] [])) (fun t kk => XS.istore X32.here hx rfl (hb hby at_84) rfl (l' := #[.val (.int a1), .val (.int b1), .val (.int c1), .val (.int d1), .val (.int i1), .val (.ref ad1), .val (.ref ad16), .val (.int (2 : Int32)), .val (.int exq), .unset]) rfl kk) ?_
    refine own_up (S' := T32.setTop (mkF m 88 #[.val (.int a1), .val (.int b1), .val (.int c1), .val (.int d1), .val (.int i1), .val (.ref ad1), .val (.ref ad16), .val (.int (2 : Int32)), .val (.int exq), .unset] [(.ref ad1)])) (fun t kk => XS.aload X32.here hx rfl (hb hby at_86) rfl rfl kk) ?_
    refine own_up (S' := T32.setTop (mkF m 90 #[.val (.int a1), .val (.int b1), .val (.int c1), .val (.int d1), .val (.int i1), .val (.ref ad1), .val (.ref ad16), .val (.int (2 : Int32)), .val (.int exq), .unset] [(.int (2 : Int32)), (.ref ad1)])) (fun t kk => XS.iload X32.here hx rfl (hb hby at_88) rfl kk) ?_
    refine own_callS X32 hx hZ hown (hw _ (List.mem_of_getElem? (i := 7) rfl)) (hw _ (List.mem_of_getElem? (i := 8) rfl)) (hw _ (List.mem_of_getElem? (i := 9) rfl)) (hw _ (List.mem_of_getElem? (i := 10) rfl)) (by decide) e32 (rm2 l Z a0 hw [] ad1 (2 : Int32) [(.int (nar .byte a1.toInt8.toInt32)), (.int (nar .byte b1.toInt8.toInt32)), (.int (nar .byte c1.toInt8.toInt32)), (.int (nar .byte d1.toInt8.toInt32))] (2) (nar .byte c1.toInt8.toInt32) (nar .byte d1.toInt8.toInt32) h32 n0 Zn33 Al13_34 (rfl) (rfl) (rfl) (rfl)) 0 [(.ref ad1), (.int (2 : Int32))] [] (hb hby at_90) (lenOf own_pd1 rfl) (by decide) (by decide) (by decide) (by decide) rfl (by rw [hml]; rfl) rfl (by show 2 * 0 + _ ≤ _; exact Nat.le_of_eq rfl) rfl ?_
    intro T43 L43 r43 X43 q43
    obtain ⟨rfl, M43, e43⟩ := q43
    have N43 := Fr.app N32 M43
    show own_Ends p e below s (own_Q0 Z a1 b1 c1 d1 i1 h0 n0) room_1.cells room_1.slots (T43.setTop (mkF m 93 #[.val (.int a1), .val (.int b1), .val (.int c1), .val (.int d1), .val (.int i1), .val (.ref ad1), .val (.ref ad16), .val (.int (2 : Int32)), .val (.int exq), .unset] [(.int ((((nar .byte c1.toInt8.toInt32) &&& (255 : Int32)) <<< ((8 : Int32) &&& 31)) ||| ((nar .byte d1.toInt8.toInt32) &&& (255 : Int32))))]))
    obtain ⟨got, h_got⟩ : ∃ z : Int32, z = ((((nar .byte c1.toInt8.toInt32) &&& (255 : Int32)) <<< ((8 : Int32) &&& 31)) ||| ((nar .byte d1.toInt8.toInt32) &&& (255 : Int32))) := ⟨_, rfl⟩
    rw [← h_got]
    refine own_up (S' := T43.setTop (mkF m 95 #[.val (.int a1), .val (.int b1), .val (.int c1), .val (.int d1), .val (.int i1), .val (.ref ad1), .val (.ref ad16), .val (.int (2 : Int32)), .val (.int exq), .val (.int got)] [])) (fun t kk => XS.istore X43.here hx rfl (hb hby at_93) rfl (l' := #[.val (.int a1), .val (.int b1), .val (.int c1), .val (.int d1), .val (.int i1), .val (.ref ad1), .val (.ref ad16), .val (.int (2 : Int32)), .val (.int exq), .val (.int got)]) rfl kk) ?_
    refine own_up (S' := T43.setTop (mkF m 97 #[.val (.int a1), .val (.int b1), .val (.int c1), .val (.int d1), .val (.int i1), .val (.ref ad1), .val (.ref ad16), .val (.int (2 : Int32)), .val (.int exq), .val (.int got)] [(.int got)])) (fun t kk => XS.iload X43.here hx rfl (hb hby at_95) rfl kk) ?_
    refine own_up (S' := T43.setTop (mkF m 99 #[.val (.int a1), .val (.int b1), .val (.int c1), .val (.int d1), .val (.int i1), .val (.ref ad1), .val (.ref ad16), .val (.int (2 : Int32)), .val (.int exq), .val (.int got)] [(.int exq), (.int got)])) (fun t kk => XS.iload X43.here hx rfl (hb hby at_97) rfl kk) ?_
    have ihc99_44 : got.toInt = exq.toInt := by rw [h_got, h_exq, own_u16 c1 d1, own_exp hr_u2 hr_u3]
    have hc99_44 : got = exq := own_ieq_of ihc99_44
    refine own_up (S' := T43.setTop (mkF m 102 #[.val (.int a1), .val (.int b1), .val (.int c1), .val (.int d1), .val (.int i1), .val (.ref ad1), .val (.ref ad16), .val (.int (2 : Int32)), .val (.int exq), .val (.int got)] [])) (fun t kk => XS.icmpNo X43.here hx rfl (hb hby at_99) rfl (XT.ii_ne_f hc99_44) kk) ?_
    refine own_up (S' := T43.setTop (mkF m 104 #[.val (.int a1), .val (.int b1), .val (.int c1), .val (.int d1), .val (.int i1), .val (.ref ad1), .val (.ref ad16), .val (.int (2 : Int32)), .val (.int exq), .val (.int got)] [(.int got)])) (fun t kk => XS.iload X43.here hx rfl (hb hby at_102) rfl kk) ?_
    have ihc104_45 : 0 ≤ got.toInt := by rw [h_got, own_u16 c1 d1]; omega
    have hc104_45 : ¬ (got < 0) := own_inl_of ihc104_45
    refine own_up (S' := T43.setTop (mkF m 107 #[.val (.int a1), .val (.int b1), .val (.int c1), .val (.int d1), .val (.int i1), .val (.ref ad1), .val (.ref ad16), .val (.int (2 : Int32)), .val (.int exq), .val (.int got)] [])) (fun t kk => XS.ifNo X43.here hx rfl (hb hby at_104) rfl (XT.i0_lt_f hc104_45) kk) ?_
    refine own_up (S' := T43.setTop (mkF m 109 #[.val (.int a1), .val (.int b1), .val (.int c1), .val (.int d1), .val (.int i1), .val (.ref ad1), .val (.ref ad16), .val (.int (2 : Int32)), .val (.int exq), .val (.int got)] [(.int got)])) (fun t kk => XS.iload X43.here hx rfl (hb hby at_107) rfl kk) ?_
    refine own_up (S' := T43.setTop (mkF m 111 #[.val (.int a1), .val (.int b1), .val (.int c1), .val (.int d1), .val (.int i1), .val (.ref ad1), .val (.ref ad16), .val (.int (2 : Int32)), .val (.int exq), .val (.int got)] [(.int (65535 : Int32)), (.int got)])) (fun t kk => X43.ldcI hx hown (mvT hZ (hw _ (List.mem_of_getElem? (i := 11) rfl))) rfl (hb hby at_109) kk) ?_
    have ihc111_46 : got.toInt ≤ 65535 := by rw [h_got, own_u16 c1 d1]; omega
    have hc111_46 : ¬ ((65535 : Int32) < got) := own_inl_of ihc111_46
    refine own_up (S' := T43.setTop (mkF m 114 #[.val (.int a1), .val (.int b1), .val (.int c1), .val (.int d1), .val (.int i1), .val (.ref ad1), .val (.ref ad16), .val (.int (2 : Int32)), .val (.int exq), .val (.int got)] [])) (fun t kk => XS.icmpNo X43.here hx rfl (hb hby at_111) rfl (XT.ii_gt_f hc111_46) kk) ?_
    refine own_up (S' := T43.setTop (mkF m 115 #[.val (.int a1), .val (.int b1), .val (.int c1), .val (.int d1), .val (.int i1), .val (.ref ad1), .val (.ref ad16), .val (.int (2 : Int32)), .val (.int exq), .val (.int got)] [(.int (1 : Int32))])) (fun t kk => XT.iconstV X43.here hx rfl (1 : Int32) (hb hby at_114) rfl kk) ?_
    refine own_up (S' := T43.setTop (mkF m 119 #[.val (.int a1), .val (.int b1), .val (.int c1), .val (.int d1), .val (.int i1), .val (.ref ad1), .val (.ref ad16), .val (.int (2 : Int32)), .val (.int exq), .val (.int got)] [(.int (1 : Int32))])) (fun t kk => XS.goto X43.here hx rfl (pc0 := 115) (pc' := 119) rfl (hb hby at_115) (by decide) (by decide) kk) ?_
    refine own_retN X43 hx hlk (t := .boolean) hret (by simp) (z' := (1 : Int32)) rfl (hb hby at_119) (by decide) (by decide) ?_
    show own_Q0 Z a1 b1 c1 d1 i1 h0 n0 _ T43.heap _
    rw [e43]
    exact ⟨rfl, N43⟩
set_option maxRecDepth 65536 in
set_option maxHeartbeats 40000000 in
theorem comes_1 {Post : Tables → Env → Array Value → State → Outcome → State → Prop} (hpost : ∀ tb e args s v u, (limb_1_1.after args s (.returned v) u = true ∧ limb_1_2.after args s (.returned v) u = true ∧ True) → FrameEnd s (.returned v) u (Jvm.fieldLocs frame_1_writes args s ++ Jvm.arrayLocs frame_1_arrays args s ++ Jvm.staticLocs frame_1_statics s) 16 128 → Post tb e args s (.returned v) u) :
    ArmFor flags0 classFile x code maxLocals ret World_1 tables_1 room_1 Calls_1 rest_1 Pre_1 Post := by
  intro l hfl _ _ p e ha hc hk s m args below hf hA hF happ hP
  obtain ⟨hcalls, hrest, hpre⟩ := hP
  obtain ⟨-, -, -, hnamed, -, -, -, hat⟩ := (Spec.applies_iff hf).mp happ
  obtain ⟨hg, hn⟩ := and_e (Cond.before_iff.mp (show (Jvm.Cond.and given_1 narrow_1).before args s = true from hpre))
  obtain ⟨g0, k0⟩ := and_e hg
  obtain ⟨g1, k1⟩ := and_e k0
  obtain ⟨g2, k2⟩ := and_e k1
  obtain ⟨g3, k3⟩ := and_e k2
  obtain ⟨g4, k4⟩ := and_e k3
  obtain ⟨w0, w1, w2, w3, w4, rfl⟩ : ∃ w0 w1 w2 w3 w4 : Value, args = #[w0, w1, w2, w3, w4] := by
    have hs : args.size = 5 := by simpa [Cond.value, given_1] using g0
    obtain ⟨L⟩ := args
    match L, hs with
    | [w0, w1, w2, w3, w4], _ => exact ⟨w0, w1, w2, w3, w4, rfl⟩
  have hw := fun d (hd : d ∈ tables_1) => atoms_spec (ws := Jvm.Cond.code x code maxLocals ret :: tables_1) hat d (List.mem_cons_of_mem _ hd)
  obtain ⟨i0, ei0⟩ := is_v g1
  obtain rfl : w0 = (.int i0) := Option.some.inj ei0
  obtain ⟨i1, ei1⟩ := is_v g2
  obtain rfl : w1 = (.int i1) := Option.some.inj ei1
  obtain ⟨i2, ei2⟩ := is_v g3
  obtain rfl : w2 = (.int i2) := Option.some.inj ei2
  obtain ⟨i3, ei3⟩ := is_v g4
  obtain rfl : w3 = (.int i3) := Option.some.inj ei3
  obtain ⟨i4, ei4⟩ := is_v k4
  obtain rfl : w4 = (.int i4) := Option.some.inj ei4
  obtain ⟨n, o, h1, h2, h3, _, L, rfl, ⟨rfl, N⟩, hq⟩ := rm0 l s _ hw tables_1 i0 i1 i2 i3 i4 s.heap s.heap.size (Nat.le_refl _)  p e ha hc hk s m _ below hf ((Spec.applies_iff_loose hf).mp happ).1 ⟨rfl, State.Warmed39.refl s, rfl⟩ trivial
  refine ⟨n, _, h1, h2, h3, hpost _ _ _ _ _ _ ⟨Cond.after_iff.mpr rfl, Cond.after_iff.mpr (eq_i res_at (Term.int_eval (1)) rfl), trivial⟩ ⟨hq.1, hq.2.1, (hq.2.2.sift fun y hy => Or.inr (N y hy)).mono (by decide) (by decide)⟩⟩
theorem main_1_1 : Claimed_1_1 := comes_1 fun _ _ _ _ _ _ h hF => ⟨h.1, hF⟩
theorem main_1_2 : Claimed_1_2 := comes_1 fun _ _ _ _ _ _ h hF => ⟨h.2.1, hF⟩
end Jvm.Pilot.@@N@@
namespace Jvm.Pilot.@@N@@
open Jvm Jvm.ClassFile Sem Op Lib Jvm.Free Jvm.Stand Jvm.Pilot.@@N@@.Jvm.D
/-! MADE BY PROGRAM (witnessworld.py) out of the Statement's table words and the real class files: 9 classes; the members and pool entries that the words name. The judged class is class 1, her method 2. -/
namespace start1
open Jvm.ClassFile
def u (s : String) : CpInfo := .utf8 (stringToUtf16 s)
/-- a pool by its gaps: so many unusable entries, then the entry; so many at the end -/
def gap : Nat → List CpInfo → List CpInfo
  | 0, r => r
  | n + 1, r => .unusable :: gap n r
def poolList (es : List (Nat × CpInfo)) (last : Nat) : List CpInfo := es.foldr (fun e r => gap e.1 (e.2 :: r)) (gap last [])
def pool (es : List (Nat × CpInfo)) (last : Nat) : Array CpInfo := ⟨poolList es last⟩
def fileOf (pool : Array CpInfo) (this : Nat) (attrs : Array Attribute := #[]) (ms : Array MethodInfo := #[]) (fl : Nat := 33) (sup : Nat := 0) (ifs : Array Nat := #[]) (fds : Array FieldInfo := #[]) : ClassFile where
  minorVersion := 0
  majorVersion := 65
  constantPool := pool
  accessFlags := fl
  thisClass := this
  superClass := sup
  interfaces := ifs
  fields := fds
  methods := ms
  attributes := attrs
def plain (name : String) (sup : Option ClassId) : Class where
  name := name
  kind := .ordinary
  loader := none
  accessFlags := 33
  super := sup
  interfaces := #[]
  cf := none
  fields := #[]
  methods := #[]
  instanceTypes := #[]
  staticTypes := #[]
  resolved := #[]
  callSites := []
  init := .initialized
  statics := none
  mirror := none

def pool0 : Array CpInfo := pool [(5, u "<init>"), (0, u "()V"), (1, .class_ 10), (1, u "java/lang/Object")] 113

def k0m0 : Method := { name := "<init>", desc := "()V", sig := { parameters := [], returnType := none }, accessFlags := 1, code := none }
/-- java/lang/Object -/
def k0 : Class := { plain "java/lang/Object" none with
  accessFlags := 33
  interfaces := #[]
  cf := some (fileOf pool0 8 #[] #[{ accessFlags := 1, nameIndex := 5, descriptorIndex := 6, attributes := #[] }] 33 0 #[] #[])
  fields := #[]
  methods := #[k0m0]
  instanceTypes := #[]
  staticTypes := #[]
  resolved := Array.replicate 124 none
  statics := none }

def pool1 : Array CpInfo := pool [(2, .class_ 4), (1, u "java/lang/Object"), (0, u "<init>"), (0, u "()V"), (0, .methodref 8 9), (0, .class_ 10), (0, .nameAndType 11 12), (0, u "com/example/wireloom/bench/HandWrittenDnsDecoderU16PinLaw"), (0, u "unsignedOf"), (0, u "(I)I"), (0, .integer 2147483647), (0, .methodref 15 16), (0, .class_ 17), (0, .nameAndType 18 19), (0, u "com/example/wireloom/bench/HandWrittenDnsDecoder"), (0, u "u16"), (0, u "([BI)I"), (0, .integer 65535), (2, u "law"), (0, u "(IIIII)Z")] 7

def k1m0 : Method := { name := "<init>", desc := "()V", sig := { parameters := [], returnType := none }, accessFlags := 2, code := none }
def k1c1 : Code := { maxStack := 2, maxLocals := 1, code := method_2_code, exceptionTable := #[], attributes := #[] }
def k1m1 : Method := { name := "unsignedOf", desc := "(I)I", sig := { parameters := [.int], returnType := some .int }, accessFlags := 10, code := some k1c1 }
def k1c2 : Code := { maxStack := 4, maxLocals := 10, code := code, exceptionTable := #[], attributes := #[] }
def k1m2 : Method := { name := "law", desc := "(IIIII)Z", sig := { parameters := [.int, .int, .int, .int, .int], returnType := some .boolean }, accessFlags := 9, code := some k1c2 }
/-- com/example/wireloom/bench/HandWrittenDnsDecoderU16PinLaw -/
def k1 : Class := { plain "com/example/wireloom/bench/HandWrittenDnsDecoderU16PinLaw" (some 0) with
  accessFlags := 49
  interfaces := #[]
  cf := some (fileOf pool1 8 #[] #[{ accessFlags := 2, nameIndex := 5, descriptorIndex := 6, attributes := #[] }, { accessFlags := 10, nameIndex := 11, descriptorIndex := 12, attributes := #[] }, { accessFlags := 9, nameIndex := 23, descriptorIndex := 24, attributes := #[] }] 49 2 #[] #[])
  fields := #[]
  methods := #[k1m0, k1m1, k1m2]
  instanceTypes := #[]
  staticTypes := #[]
  resolved := Array.replicate 32 none
  statics := none }

def pool2 : Array CpInfo := pool [(2, .class_ 4), (1, u "java/lang/Object"), (0, u "<init>"), (0, u "()V"), (0, .class_ 8), (0, u "com/example/wireloom/bench/HandWrittenDnsDecoder"), (2, u "u16"), (0, u "([BI)I"), (25, .class_ 39), (0, u "com/example/wireloom/bench/HandWrittenDnsDecoder$Summary"), (14, u "ETHERNET_HEADER"), (0, u "I"), (2, u "IPV4"), (1, u "UDP"), (1, u "UDP_HEADER"), (1, u "DNS_PORT"), (1, u "DNS_HEADER"), (1, u "POINTER")] 13

def k2m0 : Method := { name := "<init>", desc := "()V", sig := { parameters := [], returnType := none }, accessFlags := 2, code := none }
def k2c1 : Code := { maxStack := 4, maxLocals := 2, code := prog_1_method_3_code, exceptionTable := #[], attributes := #[] }
def k2m1 : Method := { name := "u16", desc := "([BI)I", sig := { parameters := [(.array .byte), .int], returnType := some .int }, accessFlags := 8, code := some k2c1 }
/-- com/example/wireloom/bench/HandWrittenDnsDecoder -/
def k2 : Class := { plain "com/example/wireloom/bench/HandWrittenDnsDecoder" (some 0) with
  accessFlags := 48
  interfaces := #[]
  cf := some (fileOf pool2 7 #[.nestMembers #[38]] #[{ accessFlags := 2, nameIndex := 5, descriptorIndex := 6, attributes := #[] }, { accessFlags := 8, nameIndex := 11, descriptorIndex := 12, attributes := #[] }] 48 2 #[] #[{ accessFlags := 24, nameIndex := 54, descriptorIndex := 55, attributes := #[] }, { accessFlags := 26, nameIndex := 58, descriptorIndex := 55, attributes := #[] }, { accessFlags := 26, nameIndex := 60, descriptorIndex := 55, attributes := #[] }, { accessFlags := 24, nameIndex := 62, descriptorIndex := 55, attributes := #[] }, { accessFlags := 26, nameIndex := 64, descriptorIndex := 55, attributes := #[] }, { accessFlags := 24, nameIndex := 66, descriptorIndex := 55, attributes := #[] }, { accessFlags := 24, nameIndex := 68, descriptorIndex := 55, attributes := #[] }])
  fields := #[{ name := "ETHERNET_HEADER", type := .int, accessFlags := 24, slot := 0, constantValue := 0 }, { name := "IPV4", type := .int, accessFlags := 26, slot := 1, constantValue := 0 }, { name := "UDP", type := .int, accessFlags := 26, slot := 2, constantValue := 0 }, { name := "UDP_HEADER", type := .int, accessFlags := 24, slot := 3, constantValue := 0 }, { name := "DNS_PORT", type := .int, accessFlags := 26, slot := 4, constantValue := 0 }, { name := "DNS_HEADER", type := .int, accessFlags := 24, slot := 5, constantValue := 0 }, { name := "POINTER", type := .int, accessFlags := 24, slot := 6, constantValue := 0 }]
  methods := #[k2m0, k2m1]
  instanceTypes := #[]
  staticTypes := #[.int, .int, .int, .int, .int, .int, .int]
  resolved := Array.replicate 82 none
  statics := none }

def pool3 : Array CpInfo := pool [(1, u "java/lang/Cloneable"), (0, .class_ 1), (0, u "java/lang/Object"), (0, .class_ 3)] 3

/-- java/lang/Cloneable -/
def k3 : Class := { plain "java/lang/Cloneable" (some 0) with
  accessFlags := 1537
  interfaces := #[]
  cf := some (fileOf pool3 2 #[] #[] 1537 4 #[] #[])
  fields := #[]
  methods := #[]
  instanceTypes := #[]
  staticTypes := #[]
  resolved := Array.replicate 8 none
  statics := none }

def pool4 : Array CpInfo := pool [(1, u "java/io/Serializable"), (0, .class_ 1), (0, u "java/lang/Object"), (0, .class_ 3)] 3

/-- java/io/Serializable -/
def k4 : Class := { plain "java/io/Serializable" (some 0) with
  accessFlags := 1537
  interfaces := #[]
  cf := some (fileOf pool4 2 #[] #[] 1537 4 #[] #[])
  fields := #[]
  methods := #[]
  instanceTypes := #[]
  staticTypes := #[]
  resolved := Array.replicate 8 none
  statics := none }

/-- the primitive byte -/
def k5 : Class := { plain "byte" none with kind := .primitive 'B', accessFlags := 0x411 }
/-- [B -/
def k6 : Class := { plain "[B" (some 0) with kind := .array 5 .byte, interfaces := #[3, 4], accessFlags := 1041 }

/-- the primitive int -/
def k7 : Class := { plain "int" none with kind := .primitive 'I', accessFlags := 0x411 }
/-- [I -/
def k8 : Class := { plain "[I" (some 0) with kind := .array 7 .int, interfaces := #[3, 4], accessFlags := 1041 }

def heap : Heap := #[]
def classes : Array Class := #[k0, k1, k2, k3, k4, k5, k6, k7, k8]
def interned : List (Array UInt16 × Addr) := []
def slotsUsed : Nat := 0
def theMethod : MethodId := ⟨1, 2⟩
def args0 : Array Value := #[.int 5, .int 6, .int 7, .int 8, .int 1]
def aboutOver (below : List Frame) : State where
  vm := { classes := classes, interned := interned.toArray }
  heap := heap
  slotsUsed := slotsUsed
  threads := #[{ frames := .invoking theMethod args0 :: below }]
def below0 : List Frame := [.native { method := ⟨0, 0⟩, args := #[] }]
def about1 : State := aboutOver below0
def p0 : Program := .bare "" "" ""
def e0 : Env := launch0.env 0 0 0
theorem w_frames : about1.frames = Frame.invoking theMethod args0 :: below0 := rfl
set_option maxRecDepth 65536 in
theorem w_args : argsFit about1.vm theMethod args0 = true := by decide +kernel
set_option maxRecDepth 65536 in
theorem w_heap : heapFits about1 = true := by decide +kernel
set_option maxRecDepth 65536 in
theorem w_runnable : about1.curStatus? = some .runnable := by decide +kernel
set_option maxRecDepth 65536 in
theorem w_alone : about1.alone = true := by decide +kernel
set_option maxRecDepth 65536 in
theorem w_named : about1.methodNamed? x = some theMethod := by decide +kernel
set_option maxRecDepth 65536 in
theorem w_hears : about1.hears theMethod below0 = true := by decide +kernel
set_option maxRecDepth 65536 in
theorem w_ripe : about1.ripe theMethod args0 below0 = true := by decide +kernel
theorem w_running : about1.status = .running := rfl
set_option maxRecDepth 65536 in
theorem w_room : about1.hasRoom e0.platform room_1 = true :=
  launch0.hasRoom_least _ room_1 (by decide +kernel) (by decide +kernel) (by decide +kernel) (by decide +kernel) (by decide +kernel) (by decide +kernel)
theorem allAtoms_all (ts : List Jvm.Cond) (a : Array Jvm.Value) (st : Jvm.State) : (allAtoms ts).before a st = ts.all (fun c => c.before a st) := by
  induction ts with
  | nil => rfl
  | cons c t ih =>
    show (Jvm.Cond.and c (allAtoms t)).before a st = _
    rw [Jvm.Cond.before_and, ih, List.all_cons]
def words1 : List Jvm.Cond := Jvm.Cond.code x code maxLocals ret :: tables_1
/-- a 'code' word, met by the world's own term for the bytes: nothing is compared byte by byte -/
theorem code_word {y : MethodName} {bytes : ByteArray} {mx : Nat} {rt : Option FieldType} {a : Array Value} {s : State} {m : MethodId} {meth : Method} {c : Code} (h1 : s.methodNamed? y = some m) (h2 : s.vm.method? m = some meth) (h3 : meth.code = some c) (h4 : c.code = bytes)
    (h5 : (c.maxLocals == mx && c.exceptionTable.isEmpty && decide (c.maxStack ≤ mostOperands) && decide (meth.sig.returnType = rt) && !meth.locks && decide (parseMethodDescriptor y.desc = some meth.sig)) = true) : (Jvm.Cond.code y bytes mx rt).before a s = true := by
  simp only [Bool.and_eq_true, beq_iff_eq, Bool.not_eq_true', decide_eq_true_eq] at h5
  obtain ⟨⟨⟨⟨⟨g1, g2⟩, g3⟩, g4⟩, g5⟩, g6⟩ := h5
  simp [Cond.before, Cond.holds, Cond.value, h1, h2, h3, h4, g1, g2, g3, g4, g5, g6]
def isCode : Jvm.Cond → Bool
  | .code _ _ _ _ => true
  | _ => false
theorem all_split {L : List Jvm.Cond} {P : Jvm.Cond → Bool} (h1 : L.all (fun c => isCode c || P c) = true) (h2 : ∀ c ∈ L.filter isCode, P c = true) : L.all P = true := by
  refine List.all_eq_true.mpr fun c hc => ?_
  have h := List.all_eq_true.mp h1 c hc
  rcases Bool.eq_false_or_eq_true (isCode c) with hi | hi
  · exact h2 c (List.mem_filter.mpr ⟨hc, hi⟩)
  · simpa [hi] using h
set_option maxRecDepth 65536 in
theorem w_c0 : (Jvm.Cond.code x code maxLocals ret).before args0 about1 = true := code_word (m := ⟨1, 2⟩) (meth := k1m2) (c := k1c2) (by decide +kernel) rfl rfl rfl (by decide +kernel)
set_option maxRecDepth 65536 in
theorem w_c1 : (Jvm.Cond.code ({ cls := "com/example/wireloom/bench/HandWrittenDnsDecoderU16PinLaw", name := "unsignedOf", desc := "(I)I" } : Jvm.MethodName) method_2_code (1 : Nat) (Option.some Jvm.ClassFile.FieldType.int)).before args0 about1 = true := code_word (m := ⟨1, 1⟩) (meth := k1m1) (c := k1c1) (by decide +kernel) rfl rfl rfl (by decide +kernel)
set_option maxRecDepth 65536 in
theorem w_c2 : (Jvm.Cond.code ({ cls := "com/example/wireloom/bench/HandWrittenDnsDecoder", name := "u16", desc := "([BI)I" } : Jvm.MethodName) prog_1_method_3_code (2 : Nat) (Option.some Jvm.ClassFile.FieldType.int)).before args0 about1 = true := code_word (m := ⟨2, 1⟩) (meth := k2m1) (c := k2c1) (by decide +kernel) rfl rfl rfl (by decide +kernel)
def codes1 : List Jvm.Cond := [Jvm.Cond.code x code maxLocals ret, Jvm.Cond.code ({ cls := "com/example/wireloom/bench/HandWrittenDnsDecoderU16PinLaw", name := "unsignedOf", desc := "(I)I" } : Jvm.MethodName) method_2_code (1 : Nat) (Option.some Jvm.ClassFile.FieldType.int), Jvm.Cond.code ({ cls := "com/example/wireloom/bench/HandWrittenDnsDecoder", name := "u16", desc := "([BI)I" } : Jvm.MethodName) prog_1_method_3_code (2 : Nat) (Option.some Jvm.ClassFile.FieldType.int)]
set_option maxRecDepth 65536 in
theorem codes_eq : words1.filter isCode = codes1 := rfl
theorem w_codes : ∀ c ∈ words1.filter isCode, c.before args0 about1 = true := by
  rw [codes_eq]
  intro c hc
  simp only [codes1, List.mem_cons, List.not_mem_nil, or_false] at hc
  rcases hc with rfl | rfl | rfl
  · exact w_c0
  · exact w_c1
  · exact w_c2
set_option maxRecDepth 65536 in
theorem w_t1 : words1.all (fun c => isCode c || c.before args0 about1) = true := by decide +kernel
theorem w_tables : (allAtoms (Jvm.Cond.code x code maxLocals ret :: tables_1)).before args0 about1 = true := by
  rw [allAtoms_all]
  show words1.all (fun c => c.before args0 about1) = true
  refine all_split ?_ w_codes
  rw [w_t1]
set_option maxRecDepth 65536 in
theorem w_case : (Jvm.Cond.and given_1 narrow_1).before args0 about1 = true := by decide +kernel
theorem w_applies : (headSpec (Jvm.Cond.code x code maxLocals ret :: tables_1) room_1).applies x e0.platform about1 = true :=
  (Spec.applies_iff w_frames).mpr ⟨w_running, w_runnable, w_alone, w_named, w_hears, w_ripe, w_room, w_tables⟩
theorem atStart : AtStart classFile x code maxLocals ret World_1 tables_1 room_1 Calls_1 rest_1 Pre_1 launch0 p0 e0 about1 theMethod args0 below0 :=
  ⟨lists_1, trivial, launch0.admits_env _ _ _, launch0.least_env, fairChoices_fair.cas, fairChoices_fair.clock, w_frames, w_args, w_heap, w_applies, trivial, trivial, w_case⟩
end start1
theorem witness_1 : WitnessClaimed_1 := ⟨start1.p0, start1.e0, start1.about1, start1.theMethod, start1.args0, start1.below0, start1.atStart⟩
end Jvm.Pilot.@@N@@
