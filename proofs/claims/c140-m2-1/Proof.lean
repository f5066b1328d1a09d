import JvmDerived
import JvmDerived.Pilot.@@N@@Statement
import JvmDerived.Pilot.@@N@@Code
set_option linter.unusedVariables false
set_option linter.unusedSimpArgs false
namespace Jvm.Pilot.@@N@@
open Jvm Jvm.ClassFile Sem Op Lib Jvm.Free Jvm.Stand Jvm.LawKit Jvm.RoadKit Bundle Jvm.Pilot.@@N@@.Jvm.D
section Own
/-! comparisons, said of the integers -/
theorem own_ieq {x y : Int32} (h : x = y) : x.toInt = y.toInt := by rw [h]
theorem own_ine {x y : Int32} (h : ¬ (x = y)) : x.toInt ≠ y.toInt := fun q => h (Int32.toInt_inj.mp q)
theorem own_ilt {x y : Int32} (h : x < y) : x.toInt < y.toInt := Int32.lt_iff_toInt_lt.mp h
theorem own_inl {x y : Int32} (h : ¬ (x < y)) : y.toInt ≤ x.toInt := Int.not_lt.mp fun q => h (Int32.lt_iff_toInt_lt.mpr q)
theorem own_ieq_of {x y : Int32} (h : x.toInt = y.toInt) : x = y := Int32.toInt_inj.mp h
theorem own_ine_of {x y : Int32} (h : x.toInt ≠ y.toInt) : ¬ (x = y) := fun q => h (by rw [q])
theorem own_ilt_of {x y : Int32} (h : x.toInt < y.toInt) : x < y := Int32.lt_iff_toInt_lt.mpr h
theorem own_inl_of {x y : Int32} (h : y.toInt ≤ x.toInt) : ¬ (x < y) := fun q => Int.not_lt.mpr h (Int32.lt_iff_toInt_lt.mp q)
theorem own_leq {x y : Int64} (h : x = y) : x.toInt = y.toInt := by rw [h]
theorem own_lne {x y : Int64} (h : ¬ (x = y)) : x.toInt ≠ y.toInt := fun q => h (Int64.toInt_inj.mp q)
theorem own_llt {x y : Int64} (h : x < y) : x.toInt < y.toInt := Int64.lt_iff_toInt_lt.mp h
theorem own_lnl {x y : Int64} (h : ¬ (x < y)) : y.toInt ≤ x.toInt := Int.not_lt.mp fun q => h (Int64.lt_iff_toInt_lt.mpr q)
theorem own_leq_of {x y : Int64} (h : x.toInt = y.toInt) : x = y := Int64.toInt_inj.mp h
theorem own_lne_of {x y : Int64} (h : x.toInt ≠ y.toInt) : ¬ (x = y) := fun q => h (by rw [q])
theorem own_llt_of {x y : Int64} (h : x.toInt < y.toInt) : x < y := Int64.lt_iff_toInt_lt.mpr h
theorem own_lnl_of {x y : Int64} (h : y.toInt ≤ x.toInt) : ¬ (x < y) := fun q => Int.not_lt.mpr h (Int64.lt_iff_toInt_lt.mp q)
variable {p : Program} {l : Launch} {e : Env} {R : Room} {s : State} {m : MethodId} {args : Array Value} {below : List Frame} {meth : Method} {c : Code} {T : State} {locs : List Loc} {cells slots : Nat} {Z : State} {a0 : Array Value} {h : Heap} {Q : Option Value → Heap → List Loc → Prop} {kc ks : Nat} {S S' : State}
/-- from S the invocation comes back; Q holds of what it returned, of the heap and of the places written -/
def own_Ends (p : Program) (e : Env) (below : List Frame) (s : State) (Q : Option Value → Heap → List Loc → Prop) (kc ks : Nat) (S : State) : Prop :=
  ∃ s₂ o, Steps p.tables e below S s₂ ∧ s₂.status = .running ∧ Ended s₂ below o ∧ ∃ v L, o = .returned v ∧ Q v s₂.heap L ∧ FrameEnd s o s₂ L kc ks
theorem own_up (st : ∀ t, Steps p.tables e below S' t → Steps p.tables e below S t) (k : own_Ends p e below s Q kc ks S') : own_Ends p e below s Q kc ks S := by
  obtain ⟨t, o, h1, h2⟩ := k
  exact ⟨t, o, st t h1, h2⟩
theorem own_met {y : MethodName} {code : ByteArray} {maxL : Nat} {ret : Option FieldType} {rm : Room} {as' : Array Value} {ws : List Jvm.Cond} {L0 : Array Slot}
    (hpl : plainFor y = true) (hef : ∀ m, entryFrame m as' maxL = mkF m 0 L0 [])
    (body : ∀ (p : Program) (e : Env) (s : State) (m : MethodId) (below : List Frame) (meth : Method) (c : Code) (T : State), p.tables.exec = Jvm.exec → c.code = code → c.maxLocals = maxL → s.vm.findClass y.cls = some m.cls → meth.name = y.name → meth.sig.returnType = ret → meth.locks = false → Z.Warmed39 s.vm → T.heap = h → Stand p l e rm s m as' below meth c T [] 0 0 → own_Ends p e below s Q rm.cells rm.slots (T.setTop (mkF m 0 L0 []))) :
    MetFree l y (head1 (Jvm.Cond.code y code maxL ret :: ws) rm) (fun a U => a = as' ∧ Z.Warmed39 U.vm ∧ U.heap = h) (fun _ _ _ _ _ => True) (fun _ U o U' => ∃ v L, o = .returned v ∧ Q v U'.heap L ∧ FrameEnd U o U' L rm.cells rm.slots) := by
  refine MetFree.of_bodySF hpl hisR ?_
  intro p e s m args below meth c s₁ Bd hml hP hK
  obtain ⟨rfl, hZ, hh⟩ := hP
  rw [hef m]
  exact body p e s m below meth c s₁ Bd.exec Bd.bytes hml (findClass_of_methodNamed Bd.named) (name_of_methodNamed Bd.named Bd.method).1 Bd.returns (BodyLoose.notSynchronized Bd) hZ (by rw [← hh, Bd.state]; rfl) (Stand.of_body Bd)
/-! returns -/
theorem own_iret (X : Stand p l e R s m args below meth c T locs cells slots) (hx : p.tables.exec = Jvm.exec) {pc : Nat} {Ls : Array Slot} {z : Int32} {rest : List Value} (hret : meth.sig.returnType = some .int) (hd : decode c.code pc = .ok (.ireturn, 1)) {fs : List Frame}
    (hl : ∀ (f : JFrame) (acts : List Action), f.method = m → f.locked = none → f.entered = [] → (doReturn e (T.setTop f) acts (some (.int z))).1 = T.setFrames fs) : Steps p.tables e below (T.setTop (mkF m pc Ls (.int z :: rest))) (T.setFrames fs) :=
  retOut X hx hret rfl (Or.inl ⟨rfl, Or.inl rfl, _, rfl⟩) hd hl
theorem own_retI (X : Stand p l e R s m args below meth c T locs cells slots) (hx : p.tables.exec = Jvm.exec) (hlk : meth.locks = false) (hret : meth.sig.returnType = some .int) {pc : Nat} {Ls : Array Slot} {z : Int32} {rest : List Value} (hd : decode c.code pc = .ok (.ireturn, 1)) (hc : cells ≤ kc) (hs : slots ≤ ks) (hq : Q (some (.int z)) T.heap locs) :
    own_Ends p e below s Q kc ks (T.setTop (mkF m pc Ls (.int z :: rest))) := by
  obtain ⟨fs, hr, hrun, hended, hW, hsame⟩ := X.leave (v := some (.int z)) (fun q => by rw [hret] at q; cases q) hlk
  exact ⟨_, _, own_iret X hx hret hd hr, hrun, hended, _, _, rfl, hq, ⟨_, rfl⟩, hW, hsame.mono hc hs⟩
theorem own_retN (X : Stand p l e R s m args below meth c T locs cells slots) (hx : p.tables.exec = Jvm.exec) (hlk : meth.locks = false) {t : FieldType} (hret : meth.sig.returnType = some t) (ht : t = .boolean ∨ t = .byte ∨ t = .char ∨ t = .short) {pc : Nat} {Ls : Array Slot} {z z' : Int32} {rest : List Value} (hn : nar t z = z') (hd : decode c.code pc = .ok (.ireturn, 1)) (hc : cells ≤ kc) (hs : slots ≤ ks) (hq : Q (some (.int z')) T.heap locs) :
    own_Ends p e below s Q kc ks (T.setTop (mkF m pc Ls (.int z :: rest))) := by
  subst hn
  obtain ⟨fs, hr, hrun, hended, hW, hsame⟩ := X.leave (v := some (.int (nar t z))) (fun q => by rw [hret] at q; cases q) hlk
  exact ⟨_, _, retN X hx hret ht hd hr, hrun, hended, _, _, rfl, hq, ⟨_, rfl⟩, hW, hsame.mono hc hs⟩
theorem own_retL (X : Stand p l e R s m args below meth c T locs cells slots) (hx : p.tables.exec = Jvm.exec) (hlk : meth.locks = false) (hret : meth.sig.returnType = some .long) {pc : Nat} {Ls : Array Slot} {z : Int64} {rest : List Value} (hd : decode c.code pc = .ok (.lreturn, 1)) (hc : cells ≤ kc) (hs : slots ≤ ks) (hq : Q (some (.long z)) T.heap locs) :
    own_Ends p e below s Q kc ks (T.setTop (mkF m pc Ls (.long z :: rest))) := by
  obtain ⟨fs, hr, hrun, hended, hW, hsame⟩ := X.leave (v := some (.long z)) (fun q => by rw [hret] at q; cases q) hlk
  exact ⟨_, _, retOut X hx hret rfl (Or.inr (Or.inl ⟨rfl, rfl, _, rfl⟩)) hd hr, hrun, hended, _, _, rfl, hq, ⟨_, rfl⟩, hW, hsame.mono hc hs⟩
theorem own_retA (X : Stand p l e R s m args below meth c T locs cells slots) (hx : p.tables.exec = Jvm.exec) (hlk : meth.locks = false) {t : FieldType} (hret : meth.sig.returnType = some t) (ht : t.isReference = true) {pc : Nat} {Ls : Array Slot} {a : Addr} {rest : List Value} (hn : narrow t (.ref a) = .ref a) (hd : decode c.code pc = .ok (.areturn, 1)) (hc : cells ≤ kc) (hs : slots ≤ ks) (hq : Q (some (.ref a)) T.heap locs) :
    own_Ends p e below s Q kc ks (T.setTop (mkF m pc Ls (.ref a :: rest))) := by
  obtain ⟨fs, hr, hrun, hended, hW, hsame⟩ := X.leave (v := some (.ref a)) (fun q => by rw [hret] at q; cases q) hlk
  exact ⟨_, _, retOut X hx hret hn (Or.inr (Or.inr (Or.inr (Or.inr ⟨rfl, ht, rfl⟩)))) hd hr, hrun, hended, _, _, rfl, hq, ⟨_, rfl⟩, hW, hsame.mono hc hs⟩
theorem own_retV (X : Stand p l e R s m args below meth c T locs cells slots) (hx : p.tables.exec = Jvm.exec) (hlk : meth.locks = false) (hret : meth.sig.returnType = none) {pc : Nat} {Ls : Array Slot} (hd : decode c.code pc = .ok (.return_, 1)) (hc : cells ≤ kc) (hs : slots ≤ ks) (hq : Q none T.heap locs) :
    own_Ends p e below s Q kc ks (T.setTop (mkF m pc Ls [])) := by
  obtain ⟨fs, hr, hrun, hended, hW, hsame⟩ := X.leave (v := none) (fun _ => rfl) hlk
  exact ⟨_, _, X.returnOut hx hret hd hr, hrun, hended, _, _, rfl, hq, ⟨_, rfl⟩, hW, hsame.mono hc hs⟩
/-! calls -/
theorem own_callS (X : Stand p l e R s m args below meth c T locs cells slots) (hx : p.tables.exec = Jvm.exec) (hZ : Z.Warmed39 s.vm) {own : String} {index : Nat} {y : MethodName} {bytes : ByteArray} {maxL : Nat} {ret : Option FieldType} {rm : Room} {as' : Array Value} {Qc : Option Value → Heap → List Loc → Prop}
    (hown : s.vm.findClass own = some m.cls) (w1 : (Jvm.Cond.methodLink own index y).before a0 Z = true) (w2 : (Jvm.Cond.static y).before a0 Z = true) (w3 : (Jvm.Cond.initialized y.cls).before a0 Z = true) (w4 : (Jvm.Cond.code y bytes maxL ret).before a0 Z = true)
    (hy : y.cls ≠ "java/lang/invoke/MethodHandle" ∧ y.cls ≠ "java/lang/invoke/VarHandle") (eT : T.heap = h)
    (hM : MetFree l y (head1 [Jvm.Cond.code y bytes maxL ret] rm) (fun a U => a = as' ∧ Z.Warmed39 U.vm ∧ U.heap = h) (fun _ _ _ _ _ => True) (fun _ U o U' => ∃ v L, o = .returned v ∧ Qc v U'.heap L ∧ FrameEnd U o U' L rm.cells rm.slots))
    (W : Nat) {g : JFrame} (argsL rest : List Value) (hdg : decode c.code g.pc = .ok (.invokestatic index, 3)) (hlen : ∀ sig, parseMethodDescriptor y.desc = some sig → argsL.length = sig.parameters.length)
    (hf : rm.frames + 1 ≤ R.frames) (hl : W + (maxL + 11) + rm.locals ≤ R.locals) (hc : cells + rm.cells ≤ R.cells) (hs : slots + rm.slots ≤ R.slots)
    (hg : g.method = m) (hsize : g.locals.size = c.maxLocals) (hstack : g.stack = argsL.reverse ++ rest) (hW : 2 * g.monitorRoom + (rest.map fun v => v.category).sum ≤ W) (has : argsL.toArray = as')
    (k : ∀ T' L v, Stand p l e R s m args below meth c T' (locs ++ L) (cells + rm.cells) (slots + rm.slots) → Qc v T'.heap L → own_Ends p e below s Q kc ks (T'.setTop { g with pc := g.pc + 3, stack := v.toList ++ rest })) :
    own_Ends p e below s Q kc ks (T.setTop g) := by
  subst has
  obtain ⟨v, _, ⟨T', L', c', n'⟩, -, X', ⟨L, hQ, l1, y1, z1⟩, st⟩ := Jvm.LawKit.callS X hx hown (mvT hZ w1) (mvT hZ w2) (mvT hZ w3) (mvT hZ w4) hy (backOf (W := W) hM hZ w4 w3 hf hl) hg hsize hlen hstack hW hdg (fun _ _ => ⟨rfl, eT, hc, hs⟩)
  dsimp only [Pt.U, Pt.locs, Pt.cells, Pt.slots] at X' l1 y1 z1 st hQ
  subst l1 y1 z1
  exact own_up st (k T' L v X' hQ)
theorem own_callI (X : Stand p l e R s m args below meth c T locs cells slots) (hx : p.tables.exec = Jvm.exec) (hZ : Z.Warmed39 s.vm) {own : String} {index : Nat} {y : MethodName} {bytes : ByteArray} {maxL : Nat} {rm : Room} {as' : Array Value} {Qc : Option Value → Heap → List Loc → Prop}
    (hy1 : y.name = "<init>") (hown : s.vm.findClass own = some m.cls) (w1 : (Jvm.Cond.methodLink own index y).before a0 Z = true) (w2 : (Jvm.Cond.instanceMethod y).before a0 Z = true) (w3 : (Jvm.Cond.initialized y.cls).before a0 Z = true) (w4 : (Jvm.Cond.code y bytes maxL none).before a0 Z = true)
    (hy : y.cls ≠ "java/lang/invoke/MethodHandle" ∧ y.cls ≠ "java/lang/invoke/VarHandle") (eT : T.heap = h)
    (hM : MetFree l y (head1 [Jvm.Cond.code y bytes maxL none] rm) (fun a U => a = as' ∧ Z.Warmed39 U.vm ∧ U.heap = h) (fun _ _ _ _ _ => True) (fun _ U o U' => ∃ v L, o = .returned v ∧ Qc v U'.heap L ∧ FrameEnd U o U' L rm.cells rm.slots))
    (W : Nat) {g : JFrame} (a : Addr) (argsL rest : List Value) (hdg : decode c.code g.pc = .ok (.invokespecial index, 3)) (hlen : ∀ sig, parseMethodDescriptor y.desc = some sig → argsL.length = sig.parameters.length)
    (hf : rm.frames + 1 ≤ R.frames) (hl : W + (maxL + 11) + rm.locals ≤ R.locals) (hc : cells + rm.cells ≤ R.cells) (hs : slots + rm.slots ≤ R.slots)
    (hg : g.method = m) (hsize : g.locals.size = c.maxLocals) (hstack : g.stack = argsL.reverse ++ .ref a :: rest) (hW : 2 * g.monitorRoom + (rest.map fun v => v.category).sum ≤ W) (has : (.ref a :: argsL).toArray = as')
    (k : ∀ T' L v, Stand p l e R s m args below meth c T' (locs ++ L) (cells + rm.cells) (slots + rm.slots) → Qc v T'.heap L → own_Ends p e below s Q kc ks (T'.setTop { g with pc := g.pc + 3, stack := v.toList ++ rest })) :
    own_Ends p e below s Q kc ks (T.setTop g) := by
  subst has
  obtain ⟨v, _, ⟨T', L', c', n'⟩, -, X', ⟨L, hQ, l1, y1, z1⟩, st⟩ := X.specialBack hx hy1 hown (mvT hZ w1) (mvT hZ w2) (mvT hZ w4) hy (backOf (W := W) hM hZ w4 w3 hf hl) hg hsize (Steps.refl _) hlen hstack hW hdg (fun _ _ => ⟨rfl, eT, hc, hs⟩)
  dsimp only [Pt.U, Pt.locs, Pt.cells, Pt.slots] at X' l1 y1 z1 st hQ
  subst l1 y1 z1
  exact own_up (fun t q => st.trans q) (k T' L v X' hQ)
theorem own_callV (X : Stand p l e R s m args below meth c T locs cells slots) (hx : p.tables.exec = Jvm.exec) (hZ : Z.Warmed39 s.vm) {own C : String} {index : Nat} {y : MethodName} {bytes : ByteArray} {maxL : Nat} {ret : Option FieldType} {rm : Room} {as' : Array Value} {Qc : Option Value → Heap → List Loc → Prop}
    (hown : s.vm.findClass own = some m.cls) (w1 : (Jvm.Cond.methodLink own index y).before a0 Z = true) (w2 : (Jvm.Cond.declares y).before a0 Z = true) (w5 : (Jvm.Cond.selects C y y).before a0 Z = true) (w6 : (Jvm.Cond.instanceMethod y).before a0 Z = true) (w3 : (Jvm.Cond.initialized y.cls).before a0 Z = true) (w4 : (Jvm.Cond.code y bytes maxL ret).before a0 Z = true)
    (hy : y.cls ≠ "java/lang/invoke/MethodHandle" ∧ y.cls ≠ "java/lang/invoke/VarHandle") (eT : T.heap = h)
    (hM : MetFree l y (head1 [Jvm.Cond.code y bytes maxL ret] rm) (fun a U => a = as' ∧ Z.Warmed39 U.vm ∧ U.heap = h) (fun _ _ _ _ _ => True) (fun _ U o U' => ∃ v L, o = .returned v ∧ Qc v U'.heap L ∧ FrameEnd U o U' L rm.cells rm.slots))
    (W : Nat) {g : JFrame} {a : Addr} (E : Exa Z h a C) (argsL rest : List Value) (hdg : decode c.code g.pc = .ok (.invokevirtual index, 3)) (hlen : ∀ sig, parseMethodDescriptor y.desc = some sig → argsL.length = sig.parameters.length)
    (hf : rm.frames + 1 ≤ R.frames) (hl : W + (maxL + 11) + rm.locals ≤ R.locals) (hc : cells + rm.cells ≤ R.cells) (hs : slots + rm.slots ≤ R.slots)
    (hg : g.method = m) (hsize : g.locals.size = c.maxLocals) (hstack : g.stack = argsL.reverse ++ .ref a :: rest) (hW : 2 * g.monitorRoom + (rest.map fun v => v.category).sum ≤ W) (has : (.ref a :: argsL).toArray = as')
    (k : ∀ T' L v, Stand p l e R s m args below meth c T' (locs ++ L) (cells + rm.cells) (slots + rm.slots) → Qc v T'.heap L → own_Ends p e below s Q kc ks (T'.setTop { g with pc := g.pc + 3, stack := v.toList ++ rest })) :
    own_Ends p e below s Q kc ks (T.setTop g) := by
  subst has
  obtain ⟨cq, kq, qa, qb, qc⟩ := isOf hZ eT E
  obtain ⟨v, _, ⟨T', L', c', n'⟩, -, X', ⟨L, hQ, l1, y1, z1⟩, st⟩ := X.virtualBack hx hown (mvT hZ w1) (mvT hZ w2) (notFace_of_selects (args := #[]) (mvT hZ w5)) (mvT hZ w5) (mvT hZ w6) hy (backOf (W := W) hM hZ w4 w3 hf hl) qa qc hg hsize (Steps.refl _) hlen hstack hW hdg (fun _ _ => ⟨rfl, eT, hc, hs⟩)
  dsimp only [Pt.U, Pt.locs, Pt.cells, Pt.slots] at X' l1 y1 z1 st hQ
  subst l1 y1 z1
  exact own_up (fun t q => st.trans q) (k T' L v X' hQ)
/-- the link names y in a class that inherits it from 'owner' -/
theorem own_callU (X : Stand p l e R s m args below meth c T locs cells slots) (hx : p.tables.exec = Jvm.exec) (hZ : Z.Warmed39 s.vm) {own C owner : String} {index : Nat} {x y : MethodName} {bytes : ByteArray} {maxL : Nat} {ret : Option FieldType} {rm : Room} {as' : Array Value} {Qc : Option Value → Heap → List Loc → Prop}
    (hown : s.vm.findClass own = some m.cls) (w1 : (Jvm.Cond.methodLink own index x).before a0 Z = true) (w7 : (Jvm.Cond.sameMethod x.cls owner x.name x.desc).before a0 Z = true) (w2 : (Jvm.Cond.declares ⟨owner, x.name, x.desc⟩).before a0 Z = true) (w5 : (Jvm.Cond.selects C x y).before a0 Z = true) (w6 : (Jvm.Cond.instanceMethod y).before a0 Z = true) (w3 : (Jvm.Cond.initialized y.cls).before a0 Z = true) (w4 : (Jvm.Cond.code y bytes maxL ret).before a0 Z = true)
    (hy : owner ≠ "java/lang/invoke/MethodHandle" ∧ owner ≠ "java/lang/invoke/VarHandle") (eT : T.heap = h)
    (hM : MetFree l y (head1 [Jvm.Cond.code y bytes maxL ret] rm) (fun a U => a = as' ∧ Z.Warmed39 U.vm ∧ U.heap = h) (fun _ _ _ _ _ => True) (fun _ U o U' => ∃ v L, o = .returned v ∧ Qc v U'.heap L ∧ FrameEnd U o U' L rm.cells rm.slots))
    (W : Nat) {g : JFrame} {a : Addr} (E : Exa Z h a C) (argsL rest : List Value) (hdg : decode c.code g.pc = .ok (.invokevirtual index, 3)) (hlen : ∀ sig, parseMethodDescriptor x.desc = some sig → argsL.length = sig.parameters.length)
    (hf : rm.frames + 1 ≤ R.frames) (hl : W + (maxL + 11) + rm.locals ≤ R.locals) (hc : cells + rm.cells ≤ R.cells) (hs : slots + rm.slots ≤ R.slots)
    (hg : g.method = m) (hsize : g.locals.size = c.maxLocals) (hstack : g.stack = argsL.reverse ++ .ref a :: rest) (hW : 2 * g.monitorRoom + (rest.map fun v => v.category).sum ≤ W) (has : (.ref a :: argsL).toArray = as')
    (k : ∀ T' L v, Stand p l e R s m args below meth c T' (locs ++ L) (cells + rm.cells) (slots + rm.slots) → Qc v T'.heap L → own_Ends p e below s Q kc ks (T'.setTop { g with pc := g.pc + 3, stack := v.toList ++ rest })) :
    own_Ends p e below s Q kc ks (T.setTop g) := by
  subst has
  obtain ⟨cq, kq, qa, qb, qc⟩ := isOf hZ eT E
  obtain ⟨v, _, ⟨T', L', c', n'⟩, -, X', ⟨L, hQ, l1, y1, z1⟩, st⟩ := X.virtualBackUp hx hown (mvT hZ w1) (mvT hZ w7) (mvT hZ w2) hy (mvT hZ w5) (mvT hZ w6) (backOf (W := W) hM hZ w4 w3 hf hl) qa qc hg hsize (Steps.refl _) hlen hstack hW hdg (fun _ _ => ⟨rfl, eT, hc, hs⟩)
  dsimp only [Pt.U, Pt.locs, Pt.cells, Pt.slots] at X' l1 y1 z1 st hQ
  subst l1 y1 z1
  exact own_up (fun t q => st.trans q) (k T' L v X' hQ)
theorem own_init (X : Stand p l e R s m args below meth c T locs cells slots) (hx : p.tables.exec = Jvm.exec) (hZ : Z.Warmed39 s.vm) {own : String} {idx : Nat} (hown : s.vm.findClass own = some m.cls) (w1 : (Jvm.Cond.methodLink own idx Lib.objectInit).before a0 Z = true) (w2 : (Jvm.Cond.instanceMethod Lib.objectInit).before a0 Z = true)
    (w3 : (Jvm.Cond.code Lib.objectInit ⟨#[0xb1]⟩ 1 none).before a0 Z = true) (eT : T.heap = h) (W : Nat) {g g' : JFrame} {a : Addr} {rest : List Value} (hd : decode c.code g.pc = .ok (.invokespecial idx, 3)) (hf : 1 ≤ R.frames) (hl : W + 12 ≤ R.locals)
    (hg : g.method = m) (hsize : g.locals.size = c.maxLocals) (hs : g.stack = .ref a :: rest) (hW : 2 * g.monitorRoom + (rest.map fun v => v.category).sum ≤ W) (hg' : { g with pc := g.pc + 3, stack := rest } = g')
    (k : ∀ T', Stand p l e R s m args below meth c T' locs cells slots → T'.heap = h → own_Ends p e below s Q kc ks (T'.setTop g')) : own_Ends p e below s Q kc ks (T.setTop g) := by
  subst hg'
  obtain ⟨T', X', e', st⟩ := initO X hx hZ hown w1 w2 w3 eT hg hsize hs hd hf hW hl
  exact own_up st (k T' X' e')
/-! the heap -/
theorem own_new (X : Stand p l e R s m args below meth c T locs cells slots) (hx : p.tables.exec = Jvm.exec) (hZ : Z.Warmed39 s.vm) {own C : String} {index n : Nat} (hown : s.vm.findClass own = some m.cls) (w : (Jvm.Cond.classLink own index C).before a0 Z = true) (wi : (Jvm.Cond.instantiable C n).before a0 Z = true) (wz : (Jvm.Cond.initialized C).before a0 Z = true) (eT : T.heap = h)
    {g : JFrame} (hg : g.method = m) (hd : decode c.code g.pc = .ok (.new index, 3)) (hc : cells + 1 ≤ R.cells) (hl : slots + n ≤ R.slots)
    (k : ∀ T' h' b, b = h.size → Stand p l e R s m args below meth c T' locs (cells + 1) (slots + n) → T'.heap = h' → Ext h h' → Exa Z h' b C → (∀ {O nm d : String} {ty : FieldType}, Laid Z a0 C O nm d → parseFieldDescriptor d = some ty → Fld Z h' b O nm d (defaultValue ty)) → own_Ends p e below s Q kc ks (T'.setTop { g with pc := g.pc + 3, stack := .ref b :: g.stack })) : own_Ends p e below s Q kc ks (T.setTop g) := by
  obtain ⟨T', h', X', e', E, A, D, -, st⟩ := newO X hx hZ hown w wi wz eT hg hd hc hl
  exact own_up st (k T' h' _ rfl X' e' E A D)
theorem own_get (X : Stand p l e R s m args below meth c T locs cells slots) (hx : p.tables.exec = Jvm.exec) (hZ : Z.Warmed39 s.vm) {own R0 O n d : String} {index : Nat} (hown : s.vm.findClass own = some m.cls) (w : (Jvm.Cond.fieldLink own index R0 n d).before a0 Z = true) (via : Via Z R0 O n d)
    (eT : T.heap = h) {a : Addr} {v : Value} (F : Fld Z h a O n d v) {g g' : JFrame} {rest : List Value} (hd : decode c.code g.pc = .ok (.getfield index, 3)) (hg : g.method = m) (hs : g.stack = .ref a :: rest) (hg' : { g with pc := g.pc + 3, stack := v :: rest } = g')
    (k : ∀ T', Stand p l e R s m args below meth c T' locs cells slots → T'.heap = h → own_Ends p e below s Q kc ks (T'.setTop g')) : own_Ends p e below s Q kc ks (T.setTop g) := by
  subst hg'
  obtain ⟨T', X', e', st⟩ := getF X hx hZ hown (host := "") (Or.inl w) via eT F hg hs hd
  exact own_up st (k T' X' e')
theorem own_gets (X : Stand p l e R s m args below meth c T locs cells slots) (hx : p.tables.exec = Jvm.exec) (hZ : Z.Warmed39 s.vm) {own R0 O n d : String} {index : Nat} (hown : s.vm.findClass own = some m.cls) (w : (Jvm.Cond.fieldLink own index R0 n d).before a0 Z = true) (via : Via Z R0 O n d)
    (eT : T.heap = h) {v : Value} (F : Sta Z h O n d v) {g g' : JFrame} (hd : decode c.code g.pc = .ok (.getstatic index, 3)) (hg : g.method = m) (hg' : { g with pc := g.pc + 3, stack := v :: g.stack } = g')
    (k : ∀ T', Stand p l e R s m args below meth c T' locs cells slots → T'.heap = h → own_Ends p e below s Q kc ks (T'.setTop g')) : own_Ends p e below s Q kc ks (T.setTop g) := by
  subst hg'
  obtain ⟨T', X', e', st⟩ := getS2 X hx hZ hown (host := "") (Or.inl w) via eT F hg hd
  exact own_up st (k T' X' e')
theorem own_put (X : Stand p l e R s m args below meth c T locs cells slots) (hx : p.tables.exec = Jvm.exec) (hZ : Z.Warmed39 s.vm) {own R0 O n d C : String} {index kk : Nat} (ty : FieldType) (hown : s.vm.findClass own = some m.cls) (w : (Jvm.Cond.fieldLink own index R0 n d).before a0 Z = true) (via : Via Z R0 O n d)
    (eT : T.heap = h) {a : Addr} {v v' old : Value} (F : Fld Z h a O n d old) (E : Exa Z h a C) (L : (Jvm.Cond.lays C O n d).before a0 Z = true ∨ ((Jvm.Cond.laysFinal C O n d).before a0 Z = true ∧ own = O ∧ meth.name = "<init>")) (wi : (Jvm.Cond.instantiable C kk).before a0 Z = true)
    (hty : parseFieldDescriptor d = some ty) (hn : narrow ty v = v') (hf : fits ty v' = true) {g g' : JFrame} {rest : List Value} (hd : decode c.code g.pc = .ok (.putfield index, 3)) (hg : g.method = m) (hs : g.stack = v :: .ref a :: rest) (hg' : { g with pc := g.pc + 3, stack := rest } = g')
    (k : ∀ T' h', Stand p l e R s m args below meth c T' (locs ++ [⟨a, Jvm.RoadKit.slotOf Z O n d⟩]) cells slots → T'.heap = h' → Wr h h' a (Jvm.RoadKit.slotOf Z O n d) v' → own_Ends p e below s Q kc ks (T'.setTop g')) : own_Ends p e below s Q kc ks (T.setTop g) := by
  subst hg'
  obtain ⟨T', h', X', e', W, st⟩ := putFN X hx hZ hown w via eT F E L wi hty hn hf hg hs hd
  exact own_up st (k T' h' X' e' W)
theorem own_fr {k : Nat} {L : List Loc} {a : Addr} {sl : Nat} (N : Fr k L) (q : k ≤ a) : Fr k (L ++ [⟨a, sl⟩]) := N.app fun y hy => by cases List.mem_singleton.mp hy; exact q
/-! arrays: the list of the values -/
def own_Al (Z : State) (h : Heap) (a : Addr) (ty : FieldType) (vs : List Value) : Prop := ∃ c : Cell, Arr Z h a c ty ∧ c.slots.toList = vs ∧ vs.length < 2 ^ 31
theorem own_Al_lt {h : Heap} {a : Addr} {ty : FieldType} {vs : List Value} (A : own_Al Z h a ty vs) : a < h.size := by obtain ⟨c, A, -⟩ := A; exact A.lt
theorem own_Al_ext {h h' : Heap} {a : Addr} {ty : FieldType} {vs : List Value} (E : Ext h h') (A : own_Al Z h a ty vs) : own_Al Z h' a ty vs := by obtain ⟨c, A, r⟩ := A; exact ⟨c, A.ext E, r⟩
theorem own_Al_oth {h h' : Heap} {a b : Addr} {sl : Nat} {v : Value} {ty : FieldType} {vs : List Value} (W : Wr h h' b sl v) (A : own_Al Z h a ty vs) (ne : a ≠ b) : own_Al Z h' a ty vs := by obtain ⟨c, A, r⟩ := A; exact ⟨c, A.other W ne, r⟩
theorem own_Al_keep {h h' : Heap} {a : Addr} {ws : List Addr} {ty : FieldType} {vs : List Value} (K : Keep h h' ws) (A : own_Al Z h a ty vs) (ne : a ∉ ws) : own_Al Z h' a ty vs := by obtain ⟨c, A, r⟩ := A; exact ⟨c, ⟨K.2.1 a c A.1 ne, A.2⟩, r⟩
theorem own_nat {j : Int32} {i : Nat} (hj : j.toInt = i) : ¬ j < 0 ∧ j.toNatClampNeg = i := by
  have h0 : ¬ j < 0 := by rw [Int32.lt_iff_toInt_lt, hj]; have : (0 : Int32).toInt = 0 := rfl; omega
  refine ⟨h0, ?_⟩
  have := nat_of h0
  omega
theorem own_newa (X : Stand p l e R s m args below meth c T locs cells slots) (hx : p.tables.exec = Jvm.exec) (hZ : Z.Warmed39 s.vm) {aty : ArrayType} {ty : FieldType} (hty : newarray.typeOf aty = ty) (w : (Jvm.Cond.arrayClass ty).before a0 Z = true) (eT : T.heap = h) {g : JFrame} {z : Int32} (nn : Nat) {rest : List Value} (hd : decode c.code g.pc = .ok (.newarray aty, 2)) (hn : z.toInt = nn) (cap : Nat) (hcap : nn ≤ cap) (hb : cap * 8 ≤ 536870912) (hc : cells + 1 ≤ R.cells) (hl : slots + cap ≤ R.slots)
    (hg : g.method = m) (hs : g.stack = .int z :: rest)
    (k : ∀ T' h' b, b = h.size → Stand p l e R s m args below meth c T' locs (cells + 1) (slots + cap) → T'.heap = h' → Ext h h' → own_Al Z h' b ty (List.replicate nn (defaultValue ty)) → own_Ends p e below s Q kc ks (T'.setTop { g with pc := g.pc + 2, stack := .ref b :: rest })) : own_Ends p e below s Q kc ks (T.setTop g) := by
  subst hty
  obtain ⟨h0, h1⟩ := own_nat hn
  obtain ⟨T', h', cA, X', e', E, A, st⟩ := newP X hx hZ w eT hg hd hs h0 (cap := cap) (by omega) hb hc hl
  exact own_up st (k T' h' _ rfl X' e' E ⟨_, A, by simp [newA, h1], by simp; omega⟩)
theorem own_in {ty : FieldType} {vs : List Value} {cl : Cell} {j : Int32} {i : Nat} (hv : cl.slots.toList = vs) (hj : j.toInt = i) (hi : i < vs.length) : ¬ (j < 0 ∨ cl.slots.size ≤ j.toNatClampNeg) := by
  obtain ⟨h0, h1⟩ := own_nat hj
  subst hv
  rintro (q | q)
  · exact h0 q
  · rw [h1] at q; simp at hi; omega
theorem own_Al_set {h h' : Heap} {a : Addr} {cl : Cell} {ty : FieldType} {vs : List Value} {j : Int32} {i : Nat} {v : Value} (A : Arr Z h a cl ty) (hv : cl.slots.toList = vs) (hl : vs.length < 2 ^ 31) (hj : j.toInt = i) (W : Wr h h' a j.toNatClampNeg v) : own_Al Z h' a ty (vs.set i v) := by
  obtain ⟨h0, h1⟩ := own_nat hj
  rw [h1] at W
  exact ⟨_, A.same W, by simp [Cell.setSlot, hv], by simpa using hl⟩
theorem own_sti (X : Stand p l e R s m args below meth c T locs cells slots) (hx : p.tables.exec = Jvm.exec) (hZ : Z.Warmed39 s.vm) (eT : T.heap = h) {a : Addr} {vs : List Value} (A : own_Al Z h a .int vs) {j x : Int32} (i : Nat) {g g' : JFrame} {rest : List Value} (hd : decode c.code g.pc = .ok (.iastore, 1)) (hj : j.toInt = i) (hi : i < vs.length) (hg : g.method = m) (hs : g.stack = .int x :: .int j :: .ref a :: rest) (hg' : { g with pc := g.pc + 1, stack := rest } = g')
    (k : ∀ T' h', Stand p l e R s m args below meth c T' (locs ++ [⟨a, j.toNatClampNeg⟩]) cells slots → T'.heap = h' → Wr h h' a j.toNatClampNeg (.int x) → own_Al Z h' a .int (vs.set i (.int x)) → own_Ends p e below s Q kc ks (T'.setTop g')) : own_Ends p e below s Q kc ks (T.setTop g) := by
  subst hg'
  obtain ⟨cl, A, hv, hl⟩ := A
  obtain ⟨T', h', X', e', W, st⟩ := stI X hx hZ eT A (own_in (ty := .int) hv hj hi) hg hs hd
  exact own_up st (k T' h' X' e' W (own_Al_set A hv hl hj W))
theorem own_stj (X : Stand p l e R s m args below meth c T locs cells slots) (hx : p.tables.exec = Jvm.exec) (hZ : Z.Warmed39 s.vm) (eT : T.heap = h) {a : Addr} {vs : List Value} (A : own_Al Z h a .long vs) {j : Int32} {x : Int64} (i : Nat) {g g' : JFrame} {rest : List Value} (hd : decode c.code g.pc = .ok (.lastore, 1)) (hj : j.toInt = i) (hi : i < vs.length) (hg : g.method = m) (hs : g.stack = .long x :: .int j :: .ref a :: rest) (hg' : { g with pc := g.pc + 1, stack := rest } = g')
    (k : ∀ T' h', Stand p l e R s m args below meth c T' (locs ++ [⟨a, j.toNatClampNeg⟩]) cells slots → T'.heap = h' → Wr h h' a j.toNatClampNeg (.long x) → own_Al Z h' a .long (vs.set i (.long x)) → own_Ends p e below s Q kc ks (T'.setTop g')) : own_Ends p e below s Q kc ks (T.setTop g) := by
  subst hg'
  obtain ⟨cl, A, hv, hl⟩ := A
  obtain ⟨T', h', X', e', W, st⟩ := stJ X hx hZ eT A (own_in (ty := .long) hv hj hi) hg hs hd
  exact own_up st (k T' h' X' e' W (own_Al_set A hv hl hj W))
theorem own_stb (X : Stand p l e R s m args below meth c T locs cells slots) (hx : p.tables.exec = Jvm.exec) (hZ : Z.Warmed39 s.vm) (eT : T.heap = h) {a : Addr} {vs : List Value} (A : own_Al Z h a .byte vs) {j x : Int32} (i : Nat) {g g' : JFrame} {rest : List Value} (hd : decode c.code g.pc = .ok (.bastore, 1)) (hj : j.toInt = i) (hi : i < vs.length) (hg : g.method = m) (hs : g.stack = .int x :: .int j :: .ref a :: rest) (hg' : { g with pc := g.pc + 1, stack := rest } = g')
    (k : ∀ T' h', Stand p l e R s m args below meth c T' (locs ++ [⟨a, j.toNatClampNeg⟩]) cells slots → T'.heap = h' → Wr h h' a j.toNatClampNeg (.int (nar .byte x)) → own_Al Z h' a .byte (vs.set i (.int (nar .byte x))) → own_Ends p e below s Q kc ks (T'.setTop g')) : own_Ends p e below s Q kc ks (T.setTop g) := by
  subst hg'
  obtain ⟨cl, A, hv, hl⟩ := A
  obtain ⟨T', h', X', e', W, st⟩ := stB X hx hZ eT A (own_in (ty := .byte) hv hj hi) hg hs hd
  exact own_up st (k T' h' X' e' W (own_Al_set A hv hl hj W))
theorem own_at {vs : List Value} {cl : Cell} {j : Int32} {i : Nat} {v : Value} (hv : cl.slots.toList = vs) (hj : j.toInt = i) (hi : vs[i]? = some v) : cl.slots[j.toNatClampNeg]? = some v := by
  rw [(own_nat hj).2, ← Array.getElem?_toList, hv]; exact hi
theorem own_ldi (X : Stand p l e R s m args below meth c T locs cells slots) (hx : p.tables.exec = Jvm.exec) (hZ : Z.Warmed39 s.vm) (eT : T.heap = h) {a : Addr} {vs : List Value} (A : own_Al Z h a .int vs) {j : Int32} {v : Value} (i : Nat) {g g' : JFrame} {rest : List Value} (hd : decode c.code g.pc = .ok (.iaload, 1)) (hj : j.toInt = i) (hi : vs[i]? = some v) (hg : g.method = m) (hs : g.stack = .int j :: .ref a :: rest) (hg' : { g with pc := g.pc + 1, stack := v :: rest } = g')
    (k : own_Ends p e below s Q kc ks (T.setTop g')) : own_Ends p e below s Q kc ks (T.setTop g) := by
  subst hg'
  obtain ⟨cl, A, hv, hl⟩ := A
  exact own_up (fun t => X.iaload hx (by rw [eT]; exact A.1) (State.isArrayOf_alike hZ.alike A.2.1) A.2.2 (own_in (ty := .int) hv hj (List.getElem?_eq_some_iff.mp hi).1) (own_at hv hj hi) hg hs hd t) k
theorem own_ldj (X : Stand p l e R s m args below meth c T locs cells slots) (hx : p.tables.exec = Jvm.exec) (hZ : Z.Warmed39 s.vm) (eT : T.heap = h) {a : Addr} {vs : List Value} (A : own_Al Z h a .long vs) {j : Int32} {v : Value} (i : Nat) {g g' : JFrame} {rest : List Value} (hd : decode c.code g.pc = .ok (.laload, 1)) (hj : j.toInt = i) (hi : vs[i]? = some v) (hg : g.method = m) (hs : g.stack = .int j :: .ref a :: rest) (hg' : { g with pc := g.pc + 1, stack := v :: rest } = g')
    (k : own_Ends p e below s Q kc ks (T.setTop g')) : own_Ends p e below s Q kc ks (T.setTop g) := by
  subst hg'
  obtain ⟨cl, A, hv, hl⟩ := A
  exact own_up (fun t => X.laload hx (by rw [eT]; exact A.1) (State.isArrayOf_alike hZ.alike A.2.1) A.2.2 (own_in (ty := .long) hv hj (List.getElem?_eq_some_iff.mp hi).1) (own_at hv hj hi) hg hs hd t) k
theorem own_ldb (X : Stand p l e R s m args below meth c T locs cells slots) (hx : p.tables.exec = Jvm.exec) (hZ : Z.Warmed39 s.vm) (eT : T.heap = h) {a : Addr} {vs : List Value} (A : own_Al Z h a .byte vs) {j : Int32} {v : Value} (i : Nat) {g g' : JFrame} {rest : List Value} (hd : decode c.code g.pc = .ok (.baload, 1)) (hj : j.toInt = i) (hi : vs[i]? = some v) (hg : g.method = m) (hs : g.stack = .int j :: .ref a :: rest) (hg' : { g with pc := g.pc + 1, stack := v :: rest } = g')
    (k : own_Ends p e below s Q kc ks (T.setTop g')) : own_Ends p e below s Q kc ks (T.setTop g) := by
  subst hg'
  obtain ⟨cl, A, hv, hl⟩ := A
  exact own_up (fun t => X.baloadBytes hx (by rw [eT]; exact A.1) (State.isArrayOf_alike hZ.alike A.2.1) A.2.2 (own_in (ty := .byte) hv hj (List.getElem?_eq_some_iff.mp hi).1) (own_at hv hj hi) hg hs hd t) k
theorem own_len (X : Stand p l e R s m args below meth c T locs cells slots) (hx : p.tables.exec = Jvm.exec) (hZ : Z.Warmed39 s.vm) (eT : T.heap = h) {a : Addr} {ty : FieldType} {vs : List Value} (A : own_Al Z h a ty vs) {g g' : JFrame} {rest : List Value} (z : Int32) (hd : decode c.code g.pc = .ok (.arraylength, 1)) (hz : z.toInt = vs.length) (hg : g.method = m) (hs : g.stack = .ref a :: rest) (hg' : { g with pc := g.pc + 1, stack := .int z :: rest } = g')
    (k : own_Ends p e below s Q kc ks (T.setTop g')) : own_Ends p e below s Q kc ks (T.setTop g) := by
  subst hg'
  obtain ⟨cl, A, hv, hl⟩ := A
  have q : cl.slots.size.toInt32 = z := by
    apply Int32.toInt_inj.mp
    have h2 : cl.slots.size = vs.length := by rw [← hv]; simp
    rw [hz, h2, len_toInt hl]
  exact own_up (fun t => X.arraylength hx (by rw [eT]; exact A.1) (State.isArrayOf_alike hZ.alike A.2.1) hg hs hd t) (by rw [q]; exact k)
end Own
/-- a line feed, or what counts as one -/
abbrev own_fd (x11 ch : Int32) : Prop := ch = 10 ∨ (¬ x11 = 0 ∧ ch = 133)
abbrev own_sk (x11 cr ch : Int32) : Prop := own_fd x11 ch ∧ ¬ cr = 0
abbrev own_en (x11 ch : Int32) : Prop := own_fd x11 ch ∨ ch = 13 ∨ (¬ x11 = 0 ∧ ch = 8232)
def own_ln (ln x11 cr ch : Int32) : Int32 := if own_sk x11 cr ch then ln else if own_en x11 ch then ln + 1 else ln
def own_cl (cl x11 cr ch : Int32) : Int32 := if own_sk x11 cr ch then cl else if own_en x11 ch then 1 else if 65535 < ch then cl + 2 else cl + 1
def own_cr (x11 cr ch : Int32) : Int32 := if own_sk x11 cr ch then 0 else if own_en x11 ch then (if ch = 13 then 1 else 0) else 0

def own_may (x11 ch : Int32) : Int32 := if ch.toInt = 10 ∨ ch.toInt = 13 ∨ (x11.toInt ≠ 0 ∧ (ch.toInt = 133 ∨ ch.toInt = 8232)) then 1 else 0
theorem own_may_1 {x11 ch : Int32} (h : ch.toInt = 10 ∨ ch.toInt = 13 ∨ (x11.toInt ≠ 0 ∧ (ch.toInt = 133 ∨ ch.toInt = 8232))) : (1 : Int32) = own_may x11 ch := (if_pos h).symm
theorem own_may_0 {x11 ch : Int32} (h : ¬ (ch.toInt = 10 ∨ ch.toInt = 13 ∨ (x11.toInt ≠ 0 ∧ (ch.toInt = 133 ∨ ch.toInt = 8232)))) : (0 : Int32) = own_may x11 ch := (if_neg h).symm
theorem own_pd0 : parseMethodDescriptor "(II)I" = some ⟨[.int, .int], some .int⟩ := by decide +kernel
theorem own_pd1 : parseMethodDescriptor "()V" = some ⟨[], none⟩ := by decide +kernel
theorem own_pd2 : parseMethodDescriptor "(I)Z" = some ⟨[.int], some .boolean⟩ := by decide +kernel
theorem own_pd3 : parseMethodDescriptor "(I)V" = some ⟨[.int], none⟩ := by decide +kernel
theorem own_pd4 : parseMethodDescriptor "()I" = some ⟨[], some .int⟩ := by decide +kernel
theorem d1_0 : decode prog_88_method_1_code 0 = .ok (.aload_n 0, 1) := by decide +kernel
theorem d1_1 : decode prog_88_method_1_code 1 = .ok (.invokespecial 1, 3) := by decide +kernel
theorem d1_4 : decode prog_88_method_1_code 4 = .ok (.aload_n 0, 1) := by decide +kernel
theorem d1_5 : decode prog_88_method_1_code 5 = .ok (.iconst 1, 1) := by decide +kernel
theorem d1_6 : decode prog_88_method_1_code 6 = .ok (.putfield 7, 3) := by decide +kernel
theorem d1_9 : decode prog_88_method_1_code 9 = .ok (.aload_n 0, 1) := by decide +kernel
theorem d1_10 : decode prog_88_method_1_code 10 = .ok (.iconst 1, 1) := by decide +kernel
theorem d1_11 : decode prog_88_method_1_code 11 = .ok (.putfield 13, 3) := by decide +kernel
theorem d1_14 : decode prog_88_method_1_code 14 = .ok (.return_, 1) := by decide +kernel
def own_R1 : Room := { frames := 1, cells := 0, slots := 0, locals := 12 }
theorem own_ef1 (oo : Addr) (m : MethodId) : entryFrame m #[(.ref oo)] 1 = mkF m 0 #[.val (.ref oo)] [] := by first | (simp [entryFrame, mkF, argsToLocals, Value.category]; done) | rfl
def own_Q1 (Z : State) (oo : Addr)  (h0 : Heap) (n0 : Nat) (v : Option Value) (h : Heap) (L : List Loc) : Prop := v = none ∧ Fr n0 L ∧ Keep h0 h [oo] ∧ Fld Z h oo "com/example/viewrite/viewrite/io/xml/Place" "line" "I" (.int (1 : Int32)) ∧ Fld Z h oo "com/example/viewrite/viewrite/io/xml/Place" "column" "I" (.int (1 : Int32)) ∧ Fld Z h oo "com/example/viewrite/viewrite/io/xml/Place" "xml11" "Z" (.int (0 : Int32)) ∧ Fld Z h oo "com/example/viewrite/viewrite/io/xml/Place" "afterCarriageReturn" "Z" (.int (0 : Int32))
set_option maxRecDepth 65536 in
set_option maxHeartbeats 40000000 in
theorem rm1 (l : Launch) (Z : State) (a0 : Array Value) (hw : ∀ d ∈ tables_1, d.before a0 Z = true) (ws : List Jvm.Cond) (oo : Addr)  (h0 : Heap) (n0 : Nat) (Z0 : n0 ≤ h0.size) (Fli : Fld Z h0 oo "com/example/viewrite/viewrite/io/xml/Place" "line" "I" (.int (0 : Int32))) (Fco : Fld Z h0 oo "com/example/viewrite/viewrite/io/xml/Place" "column" "I" (.int (0 : Int32))) (Fxm : Fld Z h0 oo "com/example/viewrite/viewrite/io/xml/Place" "xml11" "Z" (.int (0 : Int32))) (Faf : Fld Z h0 oo "com/example/viewrite/viewrite/io/xml/Place" "afterCarriageReturn" "Z" (.int (0 : Int32))) (Et : Exa Z h0 oo "com/example/viewrite/viewrite/io/xml/Place") (gt : n0 ≤ oo) :
    MetFree l (⟨"com/example/viewrite/viewrite/io/xml/Place", "<init>", "()V"⟩ : MethodName) (head1 (Jvm.Cond.code (⟨"com/example/viewrite/viewrite/io/xml/Place", "<init>", "()V"⟩ : MethodName) prog_88_method_1_code 1 none :: ws) own_R1) (fun a U => a = #[(.ref oo)] ∧ Z.Warmed39 U.vm ∧ U.heap = h0) (fun _ _ _ _ _ => True) (fun _ U o U' => ∃ v L, o = .returned v ∧ own_Q1 Z oo h0 n0 v U'.heap L ∧ FrameEnd U o U' L own_R1.cells own_R1.slots) := by
  refine own_met (Q := own_Q1 Z oo h0 n0) (plainFor_of_name (by first | (simp [plainName, overriddenIn]; done) | decide +kernel)) (own_ef1 oo) ?_
  intro p e s m below meth c T0 hx hby hml hown hnm hret hlk hZ e0 X0
  have N0 := Fr.nil n0
  refine own_up (S' := T0.setTop (mkF m 1 #[.val (.ref oo)] [(.ref oo)])) (fun t stp => XS.aloadN X0.here hx rfl (hb hby d1_0) rfl rfl stp) ?_
  refine own_init X0 hx hZ hown (hw _ (List.mem_of_getElem? (i := 10) rfl)) (hw _ (List.mem_of_getElem? (i := 11) rfl)) (hw _ (List.mem_of_getElem? (i := 12) rfl)) e0 0 (g' := (mkF m 4 #[.val (.ref oo)] [])) (hb hby d1_1) (by decide) (by decide) rfl (by rw [hml]; rfl) rfl (by show 2 * 0 + _ ≤ _; exact Nat.le_of_eq rfl) rfl ?_
  intro T1 X1 e1
  refine own_up (S' := T1.setTop (mkF m 5 #[.val (.ref oo)] [(.ref oo)])) (fun t stp => XS.aloadN X1.here hx rfl (hb hby d1_4) rfl rfl stp) ?_
  refine own_up (S' := T1.setTop (mkF m 6 #[.val (.ref oo)] [(.int (1 : Int32)), (.ref oo)])) (fun t stp => XT.iconstV X1.here hx rfl (1 : Int32) (hb hby d1_5) rfl stp) ?_
  refine own_put X1 hx hZ .int hown (hw _ (List.mem_of_getElem? (i := 13) rfl)) Via.refl e1 Fli Et (Or.inl (hw _ (List.mem_of_getElem? (i := 14) rfl))) (hw _ (List.mem_of_getElem? (i := 5) rfl)) (by decide) (v' := (.int (1 : Int32))) (rfl) (rfl) (g' := (mkF m 9 #[.val (.ref oo)] [])) (hb hby d1_6) rfl rfl rfl ?_
  intro T2 h2 X2 e2 W2
  have Zn3 := Nat.le_trans Z0 (Nat.le_of_eq W2.size.symm)
  have Fco_4 := Fco.other W2 (Or.inr (slot_ne (Or.inl (hw _ (List.mem_of_getElem? (i := 16) rfl))) (Or.inl (hw _ (List.mem_of_getElem? (i := 14) rfl))) (by decide) (t := .int) (t' := .int) (by decide) (by decide)))
  have Fxm_4 := Fxm.other W2 (Or.inr (slot_ne (Or.inl (hw _ (List.mem_of_getElem? (i := 23) rfl))) (Or.inl (hw _ (List.mem_of_getElem? (i := 14) rfl))) (by decide) (t := .boolean) (t' := .int) (by decide) (by decide)))
  have Faf_4 := Faf.other W2 (Or.inr (slot_ne (Or.inl (hw _ (List.mem_of_getElem? (i := 31) rfl))) (Or.inl (hw _ (List.mem_of_getElem? (i := 14) rfl))) (by decide) (t := .boolean) (t' := .int) (by decide) (by decide)))
  have Et_4 := Et.wr W2
  have Kp5 := (Keep.refl h0 [oo]).wr W2 (Or.inl (List.mem_of_getElem? (i := 0) rfl))
  have N2 := Fr.snoc X2 N0 gt
  have Fline_2 := Fli.same W2
  refine own_up (S' := T2.setTop (mkF m 10 #[.val (.ref oo)] [(.ref oo)])) (fun t stp => XS.aloadN X2.here hx rfl (hb hby d1_9) rfl rfl stp) ?_
  refine own_up (S' := T2.setTop (mkF m 11 #[.val (.ref oo)] [(.int (1 : Int32)), (.ref oo)])) (fun t stp => XT.iconstV X2.here hx rfl (1 : Int32) (hb hby d1_10) rfl stp) ?_
  refine own_put X2 hx hZ .int hown (hw _ (List.mem_of_getElem? (i := 15) rfl)) Via.refl e2 Fco_4 Et_4 (Or.inl (hw _ (List.mem_of_getElem? (i := 16) rfl))) (hw _ (List.mem_of_getElem? (i := 5) rfl)) (by decide) (v' := (.int (1 : Int32))) (rfl) (rfl) (g' := (mkF m 14 #[.val (.ref oo)] [])) (hb hby d1_11) rfl rfl rfl ?_
  intro T6 h6 X6 e6 W6
  have Zn7 := Nat.le_trans Zn3 (Nat.le_of_eq W6.size.symm)
  have Fline_8 := Fline_2.other W6 (Or.inr (slot_ne (Or.inl (hw _ (List.mem_of_getElem? (i := 14) rfl))) (Or.inl (hw _ (List.mem_of_getElem? (i := 16) rfl))) (by decide) (t := .int) (t' := .int) (by decide) (by decide)))
  have Fxm_8 := Fxm_4.other W6 (Or.inr (slot_ne (Or.inl (hw _ (List.mem_of_getElem? (i := 23) rfl))) (Or.inl (hw _ (List.mem_of_getElem? (i := 16) rfl))) (by decide) (t := .boolean) (t' := .int) (by decide) (by decide)))
  have Faf_8 := Faf_4.other W6 (Or.inr (slot_ne (Or.inl (hw _ (List.mem_of_getElem? (i := 31) rfl))) (Or.inl (hw _ (List.mem_of_getElem? (i := 16) rfl))) (by decide) (t := .boolean) (t' := .int) (by decide) (by decide)))
  have Et_8 := Et_4.wr W6
  have Kp9 := Kp5.wr W6 (Or.inl (List.mem_of_getElem? (i := 0) rfl))
  have N6 := Fr.snoc X6 N2 gt
  have Fcolumn_6 := Fco_4.same W6
  refine own_retV X6 hx hlk hret (hb hby d1_14) (by decide) (by decide) ?_
  show own_Q1 Z oo h0 n0 _ T6.heap _
  rw [e6]
  exact ⟨rfl, N6, Kp9, Fline_8, Fcolumn_6, Fxm_8, Faf_8⟩
theorem d2_0 : decode prog_88_method_5_code 0 = .ok (.aload_n 0, 1) := by decide +kernel
theorem d2_1 : decode prog_88_method_5_code 1 = .ok (.iconst 1, 1) := by decide +kernel
theorem d2_2 : decode prog_88_method_5_code 2 = .ok (.putfield 16, 3) := by decide +kernel
theorem d2_5 : decode prog_88_method_5_code 5 = .ok (.return_, 1) := by decide +kernel
def own_R2 : Room := { frames := 0, cells := 0, slots := 0, locals := 0 }
theorem own_ef2 (oo : Addr) (m : MethodId) : entryFrame m #[(.ref oo)] 1 = mkF m 0 #[.val (.ref oo)] [] := by first | (simp [entryFrame, mkF, argsToLocals, Value.category]; done) | rfl
def own_Q2 (Z : State) (oo : Addr) (w0 : Int32) (w1 : Int32) (w2 : Int32) (w3 : Int32) (h0 : Heap) (n0 : Nat) (v : Option Value) (h : Heap) (L : List Loc) : Prop := v = none ∧ Fr n0 L ∧ Keep h0 h [oo] ∧ Fld Z h oo "com/example/viewrite/viewrite/io/xml/Place" "line" "I" (.int w0) ∧ Fld Z h oo "com/example/viewrite/viewrite/io/xml/Place" "column" "I" (.int w1) ∧ Fld Z h oo "com/example/viewrite/viewrite/io/xml/Place" "xml11" "Z" (.int (1 : Int32)) ∧ Fld Z h oo "com/example/viewrite/viewrite/io/xml/Place" "afterCarriageReturn" "Z" (.int w3)
set_option maxRecDepth 65536 in
set_option maxHeartbeats 40000000 in
theorem rm2 (l : Launch) (Z : State) (a0 : Array Value) (hw : ∀ d ∈ tables_1, d.before a0 Z = true) (ws : List Jvm.Cond) (oo : Addr) (w0 : Int32) (w1 : Int32) (w2 : Int32) (w3 : Int32) (h0 : Heap) (n0 : Nat) (Z0 : n0 ≤ h0.size) (Fli : Fld Z h0 oo "com/example/viewrite/viewrite/io/xml/Place" "line" "I" (.int w0)) (Fco : Fld Z h0 oo "com/example/viewrite/viewrite/io/xml/Place" "column" "I" (.int w1)) (Fxm : Fld Z h0 oo "com/example/viewrite/viewrite/io/xml/Place" "xml11" "Z" (.int w2)) (Faf : Fld Z h0 oo "com/example/viewrite/viewrite/io/xml/Place" "afterCarriageReturn" "Z" (.int w3)) (Et : Exa Z h0 oo "com/example/viewrite/viewrite/io/xml/Place") (gt : n0 ≤ oo) :
    MetFree l (⟨"com/example/viewrite/viewrite/io/xml/Place", "endLinesAsXml11", "()V"⟩ : MethodName) (head1 (Jvm.Cond.code (⟨"com/example/viewrite/viewrite/io/xml/Place", "endLinesAsXml11", "()V"⟩ : MethodName) prog_88_method_5_code 1 none :: ws) own_R2) (fun a U => a = #[(.ref oo)] ∧ Z.Warmed39 U.vm ∧ U.heap = h0) (fun _ _ _ _ _ => True) (fun _ U o U' => ∃ v L, o = .returned v ∧ own_Q2 Z oo w0 w1 w2 w3 h0 n0 v U'.heap L ∧ FrameEnd U o U' L own_R2.cells own_R2.slots) := by
  refine own_met (Q := own_Q2 Z oo w0 w1 w2 w3 h0 n0) (plainFor_of_name (by first | (simp [plainName, overriddenIn]; done) | decide +kernel)) (own_ef2 oo) ?_
  intro p e s m below meth c T0 hx hby hml hown hnm hret hlk hZ e0 X0
  have N0 := Fr.nil n0
  refine own_up (S' := T0.setTop (mkF m 1 #[.val (.ref oo)] [(.ref oo)])) (fun t stp => XS.aloadN X0.here hx rfl (hb hby d2_0) rfl rfl stp) ?_
  refine own_up (S' := T0.setTop (mkF m 2 #[.val (.ref oo)] [(.int (1 : Int32)), (.ref oo)])) (fun t stp => XT.iconstV X0.here hx rfl (1 : Int32) (hb hby d2_1) rfl stp) ?_
  refine own_put X0 hx hZ .boolean hown (hw _ (List.mem_of_getElem? (i := 22) rfl)) Via.refl e0 Fxm Et (Or.inl (hw _ (List.mem_of_getElem? (i := 23) rfl))) (hw _ (List.mem_of_getElem? (i := 5) rfl)) (by decide) (v' := (.int (1 : Int32))) (rfl) (rfl) (g' := (mkF m 5 #[.val (.ref oo)] [])) (hb hby d2_2) rfl rfl rfl ?_
  intro T1 h1 X1 e1 W1
  have Zn2 := Nat.le_trans Z0 (Nat.le_of_eq W1.size.symm)
  have Fli_3 := Fli.other W1 (Or.inr (slot_ne (Or.inl (hw _ (List.mem_of_getElem? (i := 14) rfl))) (Or.inl (hw _ (List.mem_of_getElem? (i := 23) rfl))) (by decide) (t := .int) (t' := .boolean) (by decide) (by decide)))
  have Fco_3 := Fco.other W1 (Or.inr (slot_ne (Or.inl (hw _ (List.mem_of_getElem? (i := 16) rfl))) (Or.inl (hw _ (List.mem_of_getElem? (i := 23) rfl))) (by decide) (t := .int) (t' := .boolean) (by decide) (by decide)))
  have Faf_3 := Faf.other W1 (Or.inr (slot_ne (Or.inl (hw _ (List.mem_of_getElem? (i := 31) rfl))) (Or.inl (hw _ (List.mem_of_getElem? (i := 23) rfl))) (by decide) (t := .boolean) (t' := .boolean) (by decide) (by decide)))
  have Et_3 := Et.wr W1
  have Kp4 := (Keep.refl h0 [oo]).wr W1 (Or.inl (List.mem_of_getElem? (i := 0) rfl))
  have N1 := Fr.snoc X1 N0 gt
  have Fxml11_1 := Fxm.same W1
  refine own_retV X1 hx hlk hret (hb hby d2_5) (by decide) (by decide) ?_
  show own_Q2 Z oo w0 w1 w2 w3 h0 n0 _ T1.heap _
  rw [e1]
  exact ⟨rfl, N1, Kp4, Fli_3, Fco_3, Fxml11_1, Faf_3⟩
theorem d3_0 : decode prog_88_method_6_code 0 = .ok (.aload_n 0, 1) := by decide +kernel
theorem d3_1 : decode prog_88_method_6_code 1 = .ok (.getfield 7, 3) := by decide +kernel
theorem d3_4 : decode prog_88_method_6_code 4 = .ok (.ireturn, 1) := by decide +kernel
def own_R3 : Room := { frames := 0, cells := 0, slots := 0, locals := 0 }
theorem own_ef3 (oo : Addr) (m : MethodId) : entryFrame m #[(.ref oo)] 1 = mkF m 0 #[.val (.ref oo)] [] := by first | (simp [entryFrame, mkF, argsToLocals, Value.category]; done) | rfl
def own_Q3 (Z : State) (oo : Addr) (w0 : Int32) (h0 : Heap) (n0 : Nat) (v : Option Value) (h : Heap) (L : List Loc) : Prop := v = some (.int w0) ∧ Fr n0 L ∧ h = h0
set_option maxRecDepth 65536 in
set_option maxHeartbeats 40000000 in
theorem rm3 (l : Launch) (Z : State) (a0 : Array Value) (hw : ∀ d ∈ tables_1, d.before a0 Z = true) (ws : List Jvm.Cond) (oo : Addr) (w0 : Int32) (h0 : Heap) (n0 : Nat) (Z0 : n0 ≤ h0.size) (Fl : Fld Z h0 oo "com/example/viewrite/viewrite/io/xml/Place" "line" "I" (.int w0)) :
    MetFree l (⟨"com/example/viewrite/viewrite/io/xml/Place", "line", "()I"⟩ : MethodName) (head1 (Jvm.Cond.code (⟨"com/example/viewrite/viewrite/io/xml/Place", "line", "()I"⟩ : MethodName) prog_88_method_6_code 1 (some .int) :: ws) own_R3) (fun a U => a = #[(.ref oo)] ∧ Z.Warmed39 U.vm ∧ U.heap = h0) (fun _ _ _ _ _ => True) (fun _ U o U' => ∃ v L, o = .returned v ∧ own_Q3 Z oo w0 h0 n0 v U'.heap L ∧ FrameEnd U o U' L own_R3.cells own_R3.slots) := by
  refine own_met (Q := own_Q3 Z oo w0 h0 n0) (plainFor_of_name (by first | (simp [plainName, overriddenIn]; done) | decide +kernel)) (own_ef3 oo) ?_
  intro p e s m below meth c T0 hx hby hml hown hnm hret hlk hZ e0 X0
  have N0 := Fr.nil n0
  refine own_up (S' := T0.setTop (mkF m 1 #[.val (.ref oo)] [(.ref oo)])) (fun t stp => XS.aloadN X0.here hx rfl (hb hby d3_0) rfl rfl stp) ?_
  refine own_get X0 hx hZ hown (hw _ (List.mem_of_getElem? (i := 13) rfl)) Via.refl e0 Fl (g' := (mkF m 4 #[.val (.ref oo)] [(.int w0)])) (hb hby d3_1) rfl rfl rfl ?_
  intro T1 X1 e1
  refine own_retI X1 hx hlk hret (hb hby d3_4) (by decide) (by decide) ?_
  show own_Q3 Z oo w0 h0 n0 _ T1.heap _
  rw [e1]
  exact ⟨rfl, N0, rfl⟩
theorem d4_0 : decode prog_88_method_7_code 0 = .ok (.aload_n 0, 1) := by decide +kernel
theorem d4_1 : decode prog_88_method_7_code 1 = .ok (.getfield 13, 3) := by decide +kernel
theorem d4_4 : decode prog_88_method_7_code 4 = .ok (.ireturn, 1) := by decide +kernel
def own_R4 : Room := { frames := 0, cells := 0, slots := 0, locals := 0 }
theorem own_ef4 (oo : Addr) (m : MethodId) : entryFrame m #[(.ref oo)] 1 = mkF m 0 #[.val (.ref oo)] [] := by first | (simp [entryFrame, mkF, argsToLocals, Value.category]; done) | rfl
def own_Q4 (Z : State) (oo : Addr) (w0 : Int32) (h0 : Heap) (n0 : Nat) (v : Option Value) (h : Heap) (L : List Loc) : Prop := v = some (.int w0) ∧ Fr n0 L ∧ h = h0
set_option maxRecDepth 65536 in
set_option maxHeartbeats 40000000 in
theorem rm4 (l : Launch) (Z : State) (a0 : Array Value) (hw : ∀ d ∈ tables_1, d.before a0 Z = true) (ws : List Jvm.Cond) (oo : Addr) (w0 : Int32) (h0 : Heap) (n0 : Nat) (Z0 : n0 ≤ h0.size) (Fl : Fld Z h0 oo "com/example/viewrite/viewrite/io/xml/Place" "column" "I" (.int w0)) :
    MetFree l (⟨"com/example/viewrite/viewrite/io/xml/Place", "column", "()I"⟩ : MethodName) (head1 (Jvm.Cond.code (⟨"com/example/viewrite/viewrite/io/xml/Place", "column", "()I"⟩ : MethodName) prog_88_method_7_code 1 (some .int) :: ws) own_R4) (fun a U => a = #[(.ref oo)] ∧ Z.Warmed39 U.vm ∧ U.heap = h0) (fun _ _ _ _ _ => True) (fun _ U o U' => ∃ v L, o = .returned v ∧ own_Q4 Z oo w0 h0 n0 v U'.heap L ∧ FrameEnd U o U' L own_R4.cells own_R4.slots) := by
  refine own_met (Q := own_Q4 Z oo w0 h0 n0) (plainFor_of_name (by first | (simp [plainName, overriddenIn]; done) | decide +kernel)) (own_ef4 oo) ?_
  intro p e s m below meth c T0 hx hby hml hown hnm hret hlk hZ e0 X0
  have N0 := Fr.nil n0
  refine own_up (S' := T0.setTop (mkF m 1 #[.val (.ref oo)] [(.ref oo)])) (fun t stp => XS.aloadN X0.here hx rfl (hb hby d4_0) rfl rfl stp) ?_
  refine own_get X0 hx hZ hown (hw _ (List.mem_of_getElem? (i := 15) rfl)) Via.refl e0 Fl (g' := (mkF m 4 #[.val (.ref oo)] [(.int w0)])) (hb hby d4_1) rfl rfl rfl ?_
  intro T1 X1 e1
  refine own_retI X1 hx hlk hret (hb hby d4_4) (by decide) (by decide) ?_
  show own_Q4 Z oo w0 h0 n0 _ T1.heap _
  rw [e1]
  exact ⟨rfl, N0, rfl⟩
theorem d5_0 : decode prog_88_method_2_code 0 = .ok (.iload_n 1, 1) := by decide +kernel
theorem d5_1 : decode prog_88_method_2_code 1 = .ok (.bipush 10, 2) := by decide +kernel
theorem d5_3 : decode prog_88_method_2_code 3 = .ok (.if_icmp .eq 17, 3) := by decide +kernel
theorem d5_6 : decode prog_88_method_2_code 6 = .ok (.aload_n 0, 1) := by decide +kernel
theorem d5_7 : decode prog_88_method_2_code 7 = .ok (.getfield 16, 3) := by decide +kernel
theorem d5_10 : decode prog_88_method_2_code 10 = .ok (.ifCond .eq 14, 3) := by decide +kernel
theorem d5_13 : decode prog_88_method_2_code 13 = .ok (.iload_n 1, 1) := by decide +kernel
theorem d5_14 : decode prog_88_method_2_code 14 = .ok (.sipush 133, 3) := by decide +kernel
theorem d5_17 : decode prog_88_method_2_code 17 = .ok (.if_icmp .ne 7, 3) := by decide +kernel
theorem d5_20 : decode prog_88_method_2_code 20 = .ok (.iconst 1, 1) := by decide +kernel
theorem d5_21 : decode prog_88_method_2_code 21 = .ok (.goto 4, 3) := by decide +kernel
theorem d5_24 : decode prog_88_method_2_code 24 = .ok (.iconst 0, 1) := by decide +kernel
theorem d5_25 : decode prog_88_method_2_code 25 = .ok (.istore_n 2, 1) := by decide +kernel
theorem d5_26 : decode prog_88_method_2_code 26 = .ok (.iload_n 2, 1) := by decide +kernel
theorem d5_27 : decode prog_88_method_2_code 27 = .ok (.ifCond .eq 18, 3) := by decide +kernel
theorem d5_30 : decode prog_88_method_2_code 30 = .ok (.aload_n 0, 1) := by decide +kernel
theorem d5_31 : decode prog_88_method_2_code 31 = .ok (.getfield 20, 3) := by decide +kernel
theorem d5_34 : decode prog_88_method_2_code 34 = .ok (.ifCond .eq 11, 3) := by decide +kernel
theorem d5_37 : decode prog_88_method_2_code 37 = .ok (.aload_n 0, 1) := by decide +kernel
theorem d5_38 : decode prog_88_method_2_code 38 = .ok (.iconst 0, 1) := by decide +kernel
theorem d5_39 : decode prog_88_method_2_code 39 = .ok (.putfield 20, 3) := by decide +kernel
theorem d5_42 : decode prog_88_method_2_code 42 = .ok (.goto 85, 3) := by decide +kernel
theorem d5_45 : decode prog_88_method_2_code 45 = .ok (.iload_n 2, 1) := by decide +kernel
theorem d5_46 : decode prog_88_method_2_code 46 = .ok (.ifCond .ne 23, 3) := by decide +kernel
theorem d5_49 : decode prog_88_method_2_code 49 = .ok (.iload_n 1, 1) := by decide +kernel
theorem d5_50 : decode prog_88_method_2_code 50 = .ok (.bipush 13, 2) := by decide +kernel
theorem d5_52 : decode prog_88_method_2_code 52 = .ok (.if_icmp .eq 17, 3) := by decide +kernel
theorem d5_55 : decode prog_88_method_2_code 55 = .ok (.aload_n 0, 1) := by decide +kernel
theorem d5_56 : decode prog_88_method_2_code 56 = .ok (.getfield 16, 3) := by decide +kernel
theorem d5_59 : decode prog_88_method_2_code 59 = .ok (.ifCond .eq 43, 3) := by decide +kernel
theorem d5_62 : decode prog_88_method_2_code 62 = .ok (.iload_n 1, 1) := by decide +kernel
theorem d5_63 : decode prog_88_method_2_code 63 = .ok (.sipush 8232, 3) := by decide +kernel
theorem d5_66 : decode prog_88_method_2_code 66 = .ok (.if_icmp .ne 36, 3) := by decide +kernel
theorem d5_69 : decode prog_88_method_2_code 69 = .ok (.aload_n 0, 1) := by decide +kernel
theorem d5_70 : decode prog_88_method_2_code 70 = .ok (.dup, 1) := by decide +kernel
theorem d5_71 : decode prog_88_method_2_code 71 = .ok (.getfield 7, 3) := by decide +kernel
theorem d5_74 : decode prog_88_method_2_code 74 = .ok (.iconst 1, 1) := by decide +kernel
theorem d5_75 : decode prog_88_method_2_code 75 = .ok (.iadd, 1) := by decide +kernel
theorem d5_76 : decode prog_88_method_2_code 76 = .ok (.putfield 7, 3) := by decide +kernel
theorem d5_79 : decode prog_88_method_2_code 79 = .ok (.aload_n 0, 1) := by decide +kernel
theorem d5_80 : decode prog_88_method_2_code 80 = .ok (.iconst 1, 1) := by decide +kernel
theorem d5_81 : decode prog_88_method_2_code 81 = .ok (.putfield 13, 3) := by decide +kernel
theorem d5_84 : decode prog_88_method_2_code 84 = .ok (.aload_n 0, 1) := by decide +kernel
theorem d5_85 : decode prog_88_method_2_code 85 = .ok (.iload_n 1, 1) := by decide +kernel
theorem d5_86 : decode prog_88_method_2_code 86 = .ok (.bipush 13, 2) := by decide +kernel
theorem d5_88 : decode prog_88_method_2_code 88 = .ok (.if_icmp .ne 7, 3) := by decide +kernel
theorem d5_91 : decode prog_88_method_2_code 91 = .ok (.iconst 1, 1) := by decide +kernel
theorem d5_92 : decode prog_88_method_2_code 92 = .ok (.goto 4, 3) := by decide +kernel
theorem d5_95 : decode prog_88_method_2_code 95 = .ok (.iconst 0, 1) := by decide +kernel
theorem d5_96 : decode prog_88_method_2_code 96 = .ok (.putfield 20, 3) := by decide +kernel
theorem d5_99 : decode prog_88_method_2_code 99 = .ok (.goto 28, 3) := by decide +kernel
theorem d5_102 : decode prog_88_method_2_code 102 = .ok (.aload_n 0, 1) := by decide +kernel
theorem d5_103 : decode prog_88_method_2_code 103 = .ok (.dup, 1) := by decide +kernel
theorem d5_104 : decode prog_88_method_2_code 104 = .ok (.getfield 13, 3) := by decide +kernel
theorem d5_107 : decode prog_88_method_2_code 107 = .ok (.iload_n 1, 1) := by decide +kernel
theorem d5_108 : decode prog_88_method_2_code 108 = .ok (.ldc 23, 2) := by decide +kernel
theorem d5_110 : decode prog_88_method_2_code 110 = .ok (.if_icmp .le 7, 3) := by decide +kernel
theorem d5_113 : decode prog_88_method_2_code 113 = .ok (.iconst 2, 1) := by decide +kernel
theorem d5_114 : decode prog_88_method_2_code 114 = .ok (.goto 4, 3) := by decide +kernel
theorem d5_117 : decode prog_88_method_2_code 117 = .ok (.iconst 1, 1) := by decide +kernel
theorem d5_118 : decode prog_88_method_2_code 118 = .ok (.iadd, 1) := by decide +kernel
theorem d5_119 : decode prog_88_method_2_code 119 = .ok (.putfield 13, 3) := by decide +kernel
theorem d5_122 : decode prog_88_method_2_code 122 = .ok (.aload_n 0, 1) := by decide +kernel
theorem d5_123 : decode prog_88_method_2_code 123 = .ok (.iconst 0, 1) := by decide +kernel
theorem d5_124 : decode prog_88_method_2_code 124 = .ok (.putfield 20, 3) := by decide +kernel
theorem d5_127 : decode prog_88_method_2_code 127 = .ok (.return_, 1) := by decide +kernel
def own_R5 : Room := { frames := 0, cells := 0, slots := 0, locals := 0 }
theorem own_ef5 (oo : Addr) (p1 : Int32) (m : MethodId) : entryFrame m #[(.ref oo), (.int p1)] 3 = mkF m 0 #[.val (.ref oo), .val (.int p1), .unset] [] := by first | (simp [entryFrame, mkF, argsToLocals, Value.category]; done) | rfl
def own_Q5 (Z : State) (oo : Addr) (p1 : Int32) (w0 : Int32) (w1 : Int32) (w2 : Int32) (w3 : Int32) (h0 : Heap) (n0 : Nat) (v : Option Value) (h : Heap) (L : List Loc) : Prop := v = none ∧ Fr n0 L ∧ Keep h0 h [oo] ∧ Fld Z h oo "com/example/viewrite/viewrite/io/xml/Place" "line" "I" (.int (own_ln w0 w2 w3 p1)) ∧ Fld Z h oo "com/example/viewrite/viewrite/io/xml/Place" "column" "I" (.int (own_cl w1 w2 w3 p1)) ∧ Fld Z h oo "com/example/viewrite/viewrite/io/xml/Place" "xml11" "Z" (.int w2) ∧ Fld Z h oo "com/example/viewrite/viewrite/io/xml/Place" "afterCarriageReturn" "Z" (.int (own_cr w2 w3 p1))
set_option maxRecDepth 65536 in
set_option maxHeartbeats 40000000 in
theorem rm5 (l : Launch) (Z : State) (a0 : Array Value) (hw : ∀ d ∈ tables_1, d.before a0 Z = true) (ws : List Jvm.Cond) (oo : Addr) (p1 : Int32) (w0 : Int32) (w1 : Int32) (w2 : Int32) (w3 : Int32) (h0 : Heap) (n0 : Nat) (Z0 : n0 ≤ h0.size) (Fli : Fld Z h0 oo "com/example/viewrite/viewrite/io/xml/Place" "line" "I" (.int w0)) (Fco : Fld Z h0 oo "com/example/viewrite/viewrite/io/xml/Place" "column" "I" (.int w1)) (Fxm : Fld Z h0 oo "com/example/viewrite/viewrite/io/xml/Place" "xml11" "Z" (.int w2)) (Faf : Fld Z h0 oo "com/example/viewrite/viewrite/io/xml/Place" "afterCarriageReturn" "Z" (.int w3)) (Et : Exa Z h0 oo "com/example/viewrite/viewrite/io/xml/Place") (gt : n0 ≤ oo) :
    MetFree l (⟨"com/example/viewrite/viewrite/io/xml/Place", "pass", "(I)V"⟩ : MethodName) (head1 (Jvm.Cond.code (⟨"com/example/viewrite/viewrite/io/xml/Place", "pass", "(I)V"⟩ : MethodName) prog_88_method_2_code 3 none :: ws) own_R5) (fun a U => a = #[(.ref oo), (.int p1)] ∧ Z.Warmed39 U.vm ∧ U.heap = h0) (fun _ _ _ _ _ => True) (fun _ U o U' => ∃ v L, o = .returned v ∧ own_Q5 Z oo p1 w0 w1 w2 w3 h0 n0 v U'.heap L ∧ FrameEnd U o U' L own_R5.cells own_R5.slots) := by
  refine own_met (Q := own_Q5 Z oo p1 w0 w1 w2 w3 h0 n0) (plainFor_of_name (by first | (simp [plainName, overriddenIn]; done) | decide +kernel)) (own_ef5 oo p1) ?_
  intro p e s m below meth c T0 hx hby hml hown hnm hret hlk hZ e0 X0
  have N0 := Fr.nil n0
  refine own_up (S' := T0.setTop (mkF m 1 #[.val (.ref oo), .val (.int p1), .unset] [(.int p1)])) (fun t stp => XS.iloadN X0.here hx rfl (hb hby d5_0) rfl stp) ?_
  refine own_up (S' := T0.setTop (mkF m 3 #[.val (.ref oo), .val (.int p1), .unset] [(.int (10 : Int32)), (.int p1)])) (fun t stp => XT.bipushV X0.here hx rfl (10 : Int32) (hb hby d5_1) rfl stp) ?_
  by_cases hc3_1 : p1 = (10 : Int32)
  · have ihc3_1 : p1.toInt = 10 := own_ieq hc3_1
    refine own_up (S' := T0.setTop (mkF m 20 #[.val (.ref oo), .val (.int p1), .unset] [])) (fun t stp => XS.icmpYes X0.here hx rfl (pc0 := 3) (pc' := 20) rfl (hb hby d5_3) rfl (XT.ii_eq_t hc3_1) (by decide) (by decide) stp) ?_
    refine own_up (S' := T0.setTop (mkF m 21 #[.val (.ref oo), .val (.int p1), .unset] [(.int (1 : Int32))])) (fun t stp => XT.iconstV X0.here hx rfl (1 : Int32) (hb hby d5_20) rfl stp) ?_
    refine own_up (S' := T0.setTop (mkF m 25 #[.val (.ref oo), .val (.int p1), .unset] [(.int (1 : Int32))])) (fun t stp => XS.goto X0.here hx rfl (pc0 := 21) (pc' := 25) rfl (hb hby d5_21) (by decide) (by decide) stp) ?_
    refine own_up (S' := T0.setTop (mkF m 26 #[.val (.ref oo), .val (.int p1), .val (.int (1 : Int32))] [])) (fun t stp => XS.istoreN X0.here hx rfl (hb hby d5_25) rfl (l' := #[.val (.ref oo), .val (.int p1), .val (.int (1 : Int32))]) rfl stp) ?_
    refine own_up (S' := T0.setTop (mkF m 27 #[.val (.ref oo), .val (.int p1), .val (.int (1 : Int32))] [(.int (1 : Int32))])) (fun t stp => XS.iloadN X0.here hx rfl (hb hby d5_26) rfl stp) ?_
    have hc27_2 : ¬ ((1 : Int32) = 0) := by decide
    refine own_up (S' := T0.setTop (mkF m 30 #[.val (.ref oo), .val (.int p1), .val (.int (1 : Int32))] [])) (fun t stp => XS.ifNo X0.here hx rfl (hb hby d5_27) rfl (XT.i0_eq_f hc27_2) stp) ?_
    refine own_up (S' := T0.setTop (mkF m 31 #[.val (.ref oo), .val (.int p1), .val (.int (1 : Int32))] [(.ref oo)])) (fun t stp => XS.aloadN X0.here hx rfl (hb hby d5_30) rfl rfl stp) ?_
    refine own_get X0 hx hZ hown (hw _ (List.mem_of_getElem? (i := 30) rfl)) Via.refl e0 Faf (g' := (mkF m 34 #[.val (.ref oo), .val (.int p1), .val (.int (1 : Int32))] [(.int w3)])) (hb hby d5_31) rfl rfl rfl ?_
    intro T3 X3 e3
    by_cases hc34_4 : w3 = 0
    · have ihc34_4 : w3.toInt = 0 := own_ieq hc34_4
      refine own_up (S' := T3.setTop (mkF m 45 #[.val (.ref oo), .val (.int p1), .val (.int (1 : Int32))] [])) (fun t stp => XS.ifYes X3.here hx rfl (pc0 := 34) (pc' := 45) rfl (hb hby d5_34) rfl (XT.i0_eq_t hc34_4) (by decide) (by decide) stp) ?_
      refine own_up (S' := T3.setTop (mkF m 46 #[.val (.ref oo), .val (.int p1), .val (.int (1 : Int32))] [(.int (1 : Int32))])) (fun t stp => XS.iloadN X3.here hx rfl (hb hby d5_45) rfl stp) ?_
      have hc46_5 : ¬ ((1 : Int32) = 0) := hc27_2
      refine own_up (S' := T3.setTop (mkF m 69 #[.val (.ref oo), .val (.int p1), .val (.int (1 : Int32))] [])) (fun t stp => XS.ifYes X3.here hx rfl (pc0 := 46) (pc' := 69) rfl (hb hby d5_46) rfl (XT.i0_ne_t hc46_5) (by decide) (by decide) stp) ?_
      refine own_up (S' := T3.setTop (mkF m 70 #[.val (.ref oo), .val (.int p1), .val (.int (1 : Int32))] [(.ref oo)])) (fun t stp => XS.aloadN X3.here hx rfl (hb hby d5_69) rfl rfl stp) ?_
      refine own_up (S' := T3.setTop (mkF m 71 #[.val (.ref oo), .val (.int p1), .val (.int (1 : Int32))] [(.ref oo), (.ref oo)])) (fun t stp => XS.dup X3.here hx rfl (hb hby d5_70) rfl rfl stp) ?_
      refine own_get X3 hx hZ hown (hw _ (List.mem_of_getElem? (i := 13) rfl)) Via.refl e3 Fli (g' := (mkF m 74 #[.val (.ref oo), .val (.int p1), .val (.int (1 : Int32))] [(.int w0), (.ref oo)])) (hb hby d5_71) rfl rfl rfl ?_
      intro T6 X6 e6
      refine own_up (S' := T6.setTop (mkF m 75 #[.val (.ref oo), .val (.int p1), .val (.int (1 : Int32))] [(.int (1 : Int32)), (.int w0), (.ref oo)])) (fun t stp => XT.iconstV X6.here hx rfl (1 : Int32) (hb hby d5_74) rfl stp) ?_
      refine own_up (S' := T6.setTop (mkF m 76 #[.val (.ref oo), .val (.int p1), .val (.int (1 : Int32))] [(.int (w0 + (1 : Int32))), (.ref oo)])) (fun t stp => XS.iadd X6.here hx rfl (hb hby d5_75) rfl stp) ?_
      refine own_put X6 hx hZ .int hown (hw _ (List.mem_of_getElem? (i := 13) rfl)) Via.refl e6 Fli Et (Or.inl (hw _ (List.mem_of_getElem? (i := 14) rfl))) (hw _ (List.mem_of_getElem? (i := 5) rfl)) (by decide) (v' := (.int (w0 + (1 : Int32)))) (rfl) (rfl) (g' := (mkF m 79 #[.val (.ref oo), .val (.int p1), .val (.int (1 : Int32))] [])) (hb hby d5_76) rfl rfl rfl ?_
      intro T7 h7 X7 e7 W7
      have Zn8 := Nat.le_trans Z0 (Nat.le_of_eq W7.size.symm)
      have Fco_9 := Fco.other W7 (Or.inr (slot_ne (Or.inl (hw _ (List.mem_of_getElem? (i := 16) rfl))) (Or.inl (hw _ (List.mem_of_getElem? (i := 14) rfl))) (by decide) (t := .int) (t' := .int) (by decide) (by decide)))
      have Fxm_9 := Fxm.other W7 (Or.inr (slot_ne (Or.inl (hw _ (List.mem_of_getElem? (i := 23) rfl))) (Or.inl (hw _ (List.mem_of_getElem? (i := 14) rfl))) (by decide) (t := .boolean) (t' := .int) (by decide) (by decide)))
      have Faf_9 := Faf.other W7 (Or.inr (slot_ne (Or.inl (hw _ (List.mem_of_getElem? (i := 31) rfl))) (Or.inl (hw _ (List.mem_of_getElem? (i := 14) rfl))) (by decide) (t := .boolean) (t' := .int) (by decide) (by decide)))
      have Et_9 := Et.wr W7
      have Kp10 := (Keep.refl h0 [oo]).wr W7 (Or.inl (List.mem_of_getElem? (i := 0) rfl))
      have N7 := Fr.snoc X7 N0 gt
      have Fline_7 := Fli.same W7
      refine own_up (S' := T7.setTop (mkF m 80 #[.val (.ref oo), .val (.int p1), .val (.int (1 : Int32))] [(.ref oo)])) (fun t stp => XS.aloadN X7.here hx rfl (hb hby d5_79) rfl rfl stp) ?_
      refine own_up (S' := T7.setTop (mkF m 81 #[.val (.ref oo), .val (.int p1), .val (.int (1 : Int32))] [(.int (1 : Int32)), (.ref oo)])) (fun t stp => XT.iconstV X7.here hx rfl (1 : Int32) (hb hby d5_80) rfl stp) ?_
      refine own_put X7 hx hZ .int hown (hw _ (List.mem_of_getElem? (i := 15) rfl)) Via.refl e7 Fco_9 Et_9 (Or.inl (hw _ (List.mem_of_getElem? (i := 16) rfl))) (hw _ (List.mem_of_getElem? (i := 5) rfl)) (by decide) (v' := (.int (1 : Int32))) (rfl) (rfl) (g' := (mkF m 84 #[.val (.ref oo), .val (.int p1), .val (.int (1 : Int32))] [])) (hb hby d5_81) rfl rfl rfl ?_
      intro T11 h11 X11 e11 W11
      have Zn12 := Nat.le_trans Zn8 (Nat.le_of_eq W11.size.symm)
      have Fline_13 := Fline_7.other W11 (Or.inr (slot_ne (Or.inl (hw _ (List.mem_of_getElem? (i := 14) rfl))) (Or.inl (hw _ (List.mem_of_getElem? (i := 16) rfl))) (by decide) (t := .int) (t' := .int) (by decide) (by decide)))
      have Fxm_13 := Fxm_9.other W11 (Or.inr (slot_ne (Or.inl (hw _ (List.mem_of_getElem? (i := 23) rfl))) (Or.inl (hw _ (List.mem_of_getElem? (i := 16) rfl))) (by decide) (t := .boolean) (t' := .int) (by decide) (by decide)))
      have Faf_13 := Faf_9.other W11 (Or.inr (slot_ne (Or.inl (hw _ (List.mem_of_getElem? (i := 31) rfl))) (Or.inl (hw _ (List.mem_of_getElem? (i := 16) rfl))) (by decide) (t := .boolean) (t' := .int) (by decide) (by decide)))
      have Et_13 := Et_9.wr W11
      have Kp14 := Kp10.wr W11 (Or.inl (List.mem_of_getElem? (i := 0) rfl))
      have N11 := Fr.snoc X11 N7 gt
      have Fcolumn_11 := Fco_9.same W11
      refine own_up (S' := T11.setTop (mkF m 85 #[.val (.ref oo), .val (.int p1), .val (.int (1 : Int32))] [(.ref oo)])) (fun t stp => XS.aloadN X11.here hx rfl (hb hby d5_84) rfl rfl stp) ?_
      refine own_up (S' := T11.setTop (mkF m 86 #[.val (.ref oo), .val (.int p1), .val (.int (1 : Int32))] [(.int p1), (.ref oo)])) (fun t stp => XS.iloadN X11.here hx rfl (hb hby d5_85) rfl stp) ?_
      refine own_up (S' := T11.setTop (mkF m 88 #[.val (.ref oo), .val (.int p1), .val (.int (1 : Int32))] [(.int (13 : Int32)), (.int p1), (.ref oo)])) (fun t stp => XT.bipushV X11.here hx rfl (13 : Int32) (hb hby d5_86) rfl stp) ?_
      have hc88_15 : ¬ (p1 = (13 : Int32)) := by rw [hc3_1]; decide
      have ihc88_15 : p1.toInt ≠ 13 := own_ine hc88_15
      refine own_up (S' := T11.setTop (mkF m 95 #[.val (.ref oo), .val (.int p1), .val (.int (1 : Int32))] [(.ref oo)])) (fun t stp => XS.icmpYes X11.here hx rfl (pc0 := 88) (pc' := 95) rfl (hb hby d5_88) rfl (XT.ii_ne_t hc88_15) (by decide) (by decide) stp) ?_
      refine own_up (S' := T11.setTop (mkF m 96 #[.val (.ref oo), .val (.int p1), .val (.int (1 : Int32))] [(.int (0 : Int32)), (.ref oo)])) (fun t stp => XT.iconstV X11.here hx rfl (0 : Int32) (hb hby d5_95) rfl stp) ?_
      refine own_put X11 hx hZ .boolean hown (hw _ (List.mem_of_getElem? (i := 30) rfl)) Via.refl e11 Faf_13 Et_13 (Or.inl (hw _ (List.mem_of_getElem? (i := 31) rfl))) (hw _ (List.mem_of_getElem? (i := 5) rfl)) (by decide) (v' := (.int (0 : Int32))) (rfl) (rfl) (g' := (mkF m 99 #[.val (.ref oo), .val (.int p1), .val (.int (1 : Int32))] [])) (hb hby d5_96) rfl rfl rfl ?_
      intro T16 h16 X16 e16 W16
      have Zn17 := Nat.le_trans Zn12 (Nat.le_of_eq W16.size.symm)
      have Fline_18 := Fline_13.other W16 (Or.inr (slot_ne (Or.inl (hw _ (List.mem_of_getElem? (i := 14) rfl))) (Or.inl (hw _ (List.mem_of_getElem? (i := 31) rfl))) (by decide) (t := .int) (t' := .boolean) (by decide) (by decide)))
      have Fcolumn_18 := Fcolumn_11.other W16 (Or.inr (slot_ne (Or.inl (hw _ (List.mem_of_getElem? (i := 16) rfl))) (Or.inl (hw _ (List.mem_of_getElem? (i := 31) rfl))) (by decide) (t := .int) (t' := .boolean) (by decide) (by decide)))
      have Fxm_18 := Fxm_13.other W16 (Or.inr (slot_ne (Or.inl (hw _ (List.mem_of_getElem? (i := 23) rfl))) (Or.inl (hw _ (List.mem_of_getElem? (i := 31) rfl))) (by decide) (t := .boolean) (t' := .boolean) (by decide) (by decide)))
      have Et_18 := Et_13.wr W16
      have Kp19 := Kp14.wr W16 (Or.inl (List.mem_of_getElem? (i := 0) rfl))
      have N16 := Fr.snoc X16 N11 gt
      have FafterCarriageReturn_16 := Faf_13.same W16
      refine own_up (S' := T16.setTop (mkF m 127 #[.val (.ref oo), .val (.int p1), .val (.int (1 : Int32))] [])) (fun t stp => XS.goto X16.here hx rfl (pc0 := 99) (pc' := 127) rfl (hb hby d5_99) (by decide) (by decide) stp) ?_
      refine own_retV X16 hx hlk hret (hb hby d5_127) (by decide) (by decide) ?_
      show own_Q5 Z oo p1 w0 w1 w2 w3 h0 n0 _ T16.heap _
      rw [e16]
      exact ⟨rfl, N16, Kp19, ((by simp [own_ln, own_fd, own_sk, own_en, hc3_1, hc27_2, hc34_4, hc46_5, hc88_15] : (w0 + (1 : Int32)) = (own_ln w0 w2 w3 p1)) ▸ Fline_18), ((by simp [own_cl, own_fd, own_sk, own_en, hc3_1, hc27_2, hc34_4, hc46_5, hc88_15] : (1 : Int32) = (own_cl w1 w2 w3 p1)) ▸ Fcolumn_18), Fxm_18, ((by simp [own_cr, own_fd, own_sk, own_en, hc3_1, hc27_2, hc34_4, hc46_5, hc88_15] : (0 : Int32) = (own_cr w2 w3 p1)) ▸ FafterCarriageReturn_16)⟩
    · have ihc34_4 : w3.toInt ≠ 0 := own_ine hc34_4
      refine own_up (S' := T3.setTop (mkF m 37 #[.val (.ref oo), .val (.int p1), .val (.int (1 : Int32))] [])) (fun t stp => XS.ifNo X3.here hx rfl (hb hby d5_34) rfl (XT.i0_eq_f hc34_4) stp) ?_
      refine own_up (S' := T3.setTop (mkF m 38 #[.val (.ref oo), .val (.int p1), .val (.int (1 : Int32))] [(.ref oo)])) (fun t stp => XS.aloadN X3.here hx rfl (hb hby d5_37) rfl rfl stp) ?_
      refine own_up (S' := T3.setTop (mkF m 39 #[.val (.ref oo), .val (.int p1), .val (.int (1 : Int32))] [(.int (0 : Int32)), (.ref oo)])) (fun t stp => XT.iconstV X3.here hx rfl (0 : Int32) (hb hby d5_38) rfl stp) ?_
      refine own_put X3 hx hZ .boolean hown (hw _ (List.mem_of_getElem? (i := 30) rfl)) Via.refl e3 Faf Et (Or.inl (hw _ (List.mem_of_getElem? (i := 31) rfl))) (hw _ (List.mem_of_getElem? (i := 5) rfl)) (by decide) (v' := (.int (0 : Int32))) (rfl) (rfl) (g' := (mkF m 42 #[.val (.ref oo), .val (.int p1), .val (.int (1 : Int32))] [])) (hb hby d5_39) rfl rfl rfl ?_
      intro T20 h20 X20 e20 W20
      have Zn21 := Nat.le_trans Z0 (Nat.le_of_eq W20.size.symm)
      have Fli_22 := Fli.other W20 (Or.inr (slot_ne (Or.inl (hw _ (List.mem_of_getElem? (i := 14) rfl))) (Or.inl (hw _ (List.mem_of_getElem? (i := 31) rfl))) (by decide) (t := .int) (t' := .boolean) (by decide) (by decide)))
      have Fco_22 := Fco.other W20 (Or.inr (slot_ne (Or.inl (hw _ (List.mem_of_getElem? (i := 16) rfl))) (Or.inl (hw _ (List.mem_of_getElem? (i := 31) rfl))) (by decide) (t := .int) (t' := .boolean) (by decide) (by decide)))
      have Fxm_22 := Fxm.other W20 (Or.inr (slot_ne (Or.inl (hw _ (List.mem_of_getElem? (i := 23) rfl))) (Or.inl (hw _ (List.mem_of_getElem? (i := 31) rfl))) (by decide) (t := .boolean) (t' := .boolean) (by decide) (by decide)))
      have Et_22 := Et.wr W20
      have Kp23 := (Keep.refl h0 [oo]).wr W20 (Or.inl (List.mem_of_getElem? (i := 0) rfl))
      have N20 := Fr.snoc X20 N0 gt
      have FafterCarriageReturn_20 := Faf.same W20
      refine own_up (S' := T20.setTop (mkF m 127 #[.val (.ref oo), .val (.int p1), .val (.int (1 : Int32))] [])) (fun t stp => XS.goto X20.here hx rfl (pc0 := 42) (pc' := 127) rfl (hb hby d5_42) (by decide) (by decide) stp) ?_
      refine own_retV X20 hx hlk hret (hb hby d5_127) (by decide) (by decide) ?_
      show own_Q5 Z oo p1 w0 w1 w2 w3 h0 n0 _ T20.heap _
      rw [e20]
      exact ⟨rfl, N20, Kp23, ((by simp [own_ln, own_fd, own_sk, own_en, hc3_1, hc27_2, hc34_4] : w0 = (own_ln w0 w2 w3 p1)) ▸ Fli_22), ((by simp [own_cl, own_fd, own_sk, own_en, hc3_1, hc27_2, hc34_4] : w1 = (own_cl w1 w2 w3 p1)) ▸ Fco_22), Fxm_22, ((by simp [own_cr, own_fd, own_sk, own_en, hc3_1, hc27_2, hc34_4] : (0 : Int32) = (own_cr w2 w3 p1)) ▸ FafterCarriageReturn_20)⟩
  · have ihc3_1 : p1.toInt ≠ 10 := own_ine hc3_1
    refine own_up (S' := T0.setTop (mkF m 6 #[.val (.ref oo), .val (.int p1), .unset] [])) (fun t stp => XS.icmpNo X0.here hx rfl (hb hby d5_3) rfl (XT.ii_eq_f hc3_1) stp) ?_
    refine own_up (S' := T0.setTop (mkF m 7 #[.val (.ref oo), .val (.int p1), .unset] [(.ref oo)])) (fun t stp => XS.aloadN X0.here hx rfl (hb hby d5_6) rfl rfl stp) ?_
    refine own_get X0 hx hZ hown (hw _ (List.mem_of_getElem? (i := 22) rfl)) Via.refl e0 Fxm (g' := (mkF m 10 #[.val (.ref oo), .val (.int p1), .unset] [(.int w2)])) (hb hby d5_7) rfl rfl rfl ?_
    intro T24 X24 e24
    by_cases hc10_25 : w2 = 0
    · have ihc10_25 : w2.toInt = 0 := own_ieq hc10_25
      refine own_up (S' := T24.setTop (mkF m 24 #[.val (.ref oo), .val (.int p1), .unset] [])) (fun t stp => XS.ifYes X24.here hx rfl (pc0 := 10) (pc' := 24) rfl (hb hby d5_10) rfl (XT.i0_eq_t hc10_25) (by decide) (by decide) stp) ?_
      refine own_up (S' := T24.setTop (mkF m 25 #[.val (.ref oo), .val (.int p1), .unset] [(.int (0 : Int32))])) (fun t stp => XT.iconstV X24.here hx rfl (0 : Int32) (hb hby d5_24) rfl stp) ?_
      refine own_up (S' := T24.setTop (mkF m 26 #[.val (.ref oo), .val (.int p1), .val (.int (0 : Int32))] [])) (fun t stp => XS.istoreN X24.here hx rfl (hb hby d5_25) rfl (l' := #[.val (.ref oo), .val (.int p1), .val (.int (0 : Int32))]) rfl stp) ?_
      refine own_up (S' := T24.setTop (mkF m 27 #[.val (.ref oo), .val (.int p1), .val (.int (0 : Int32))] [(.int (0 : Int32))])) (fun t stp => XS.iloadN X24.here hx rfl (hb hby d5_26) rfl stp) ?_
      have hc27_26 : (0 : Int32) = 0 := by decide
      refine own_up (S' := T24.setTop (mkF m 45 #[.val (.ref oo), .val (.int p1), .val (.int (0 : Int32))] [])) (fun t stp => XS.ifYes X24.here hx rfl (pc0 := 27) (pc' := 45) rfl (hb hby d5_27) rfl (XT.i0_eq_t hc27_26) (by decide) (by decide) stp) ?_
      refine own_up (S' := T24.setTop (mkF m 46 #[.val (.ref oo), .val (.int p1), .val (.int (0 : Int32))] [(.int (0 : Int32))])) (fun t stp => XS.iloadN X24.here hx rfl (hb hby d5_45) rfl stp) ?_
      have hc46_27 : (0 : Int32) = 0 := hc27_26
      refine own_up (S' := T24.setTop (mkF m 49 #[.val (.ref oo), .val (.int p1), .val (.int (0 : Int32))] [])) (fun t stp => XS.ifNo X24.here hx rfl (hb hby d5_46) rfl (XT.i0_ne_f hc46_27) stp) ?_
      refine own_up (S' := T24.setTop (mkF m 50 #[.val (.ref oo), .val (.int p1), .val (.int (0 : Int32))] [(.int p1)])) (fun t stp => XS.iloadN X24.here hx rfl (hb hby d5_49) rfl stp) ?_
      refine own_up (S' := T24.setTop (mkF m 52 #[.val (.ref oo), .val (.int p1), .val (.int (0 : Int32))] [(.int (13 : Int32)), (.int p1)])) (fun t stp => XT.bipushV X24.here hx rfl (13 : Int32) (hb hby d5_50) rfl stp) ?_
      by_cases hc52_28 : p1 = (13 : Int32)
      · have ihc52_28 : p1.toInt = 13 := own_ieq hc52_28
        refine own_up (S' := T24.setTop (mkF m 69 #[.val (.ref oo), .val (.int p1), .val (.int (0 : Int32))] [])) (fun t stp => XS.icmpYes X24.here hx rfl (pc0 := 52) (pc' := 69) rfl (hb hby d5_52) rfl (XT.ii_eq_t hc52_28) (by decide) (by decide) stp) ?_
        refine own_up (S' := T24.setTop (mkF m 70 #[.val (.ref oo), .val (.int p1), .val (.int (0 : Int32))] [(.ref oo)])) (fun t stp => XS.aloadN X24.here hx rfl (hb hby d5_69) rfl rfl stp) ?_
        refine own_up (S' := T24.setTop (mkF m 71 #[.val (.ref oo), .val (.int p1), .val (.int (0 : Int32))] [(.ref oo), (.ref oo)])) (fun t stp => XS.dup X24.here hx rfl (hb hby d5_70) rfl rfl stp) ?_
        refine own_get X24 hx hZ hown (hw _ (List.mem_of_getElem? (i := 13) rfl)) Via.refl e24 Fli (g' := (mkF m 74 #[.val (.ref oo), .val (.int p1), .val (.int (0 : Int32))] [(.int w0), (.ref oo)])) (hb hby d5_71) rfl rfl rfl ?_
        intro T29 X29 e29
        refine own_up (S' := T29.setTop (mkF m 75 #[.val (.ref oo), .val (.int p1), .val (.int (0 : Int32))] [(.int (1 : Int32)), (.int w0), (.ref oo)])) (fun t stp => XT.iconstV X29.here hx rfl (1 : Int32) (hb hby d5_74) rfl stp) ?_
        refine own_up (S' := T29.setTop (mkF m 76 #[.val (.ref oo), .val (.int p1), .val (.int (0 : Int32))] [(.int (w0 + (1 : Int32))), (.ref oo)])) (fun t stp => XS.iadd X29.here hx rfl (hb hby d5_75) rfl stp) ?_
        refine own_put X29 hx hZ .int hown (hw _ (List.mem_of_getElem? (i := 13) rfl)) Via.refl e29 Fli Et (Or.inl (hw _ (List.mem_of_getElem? (i := 14) rfl))) (hw _ (List.mem_of_getElem? (i := 5) rfl)) (by decide) (v' := (.int (w0 + (1 : Int32)))) (rfl) (rfl) (g' := (mkF m 79 #[.val (.ref oo), .val (.int p1), .val (.int (0 : Int32))] [])) (hb hby d5_76) rfl rfl rfl ?_
        intro T30 h30 X30 e30 W30
        have Zn31 := Nat.le_trans Z0 (Nat.le_of_eq W30.size.symm)
        have Fco_32 := Fco.other W30 (Or.inr (slot_ne (Or.inl (hw _ (List.mem_of_getElem? (i := 16) rfl))) (Or.inl (hw _ (List.mem_of_getElem? (i := 14) rfl))) (by decide) (t := .int) (t' := .int) (by decide) (by decide)))
        have Fxm_32 := Fxm.other W30 (Or.inr (slot_ne (Or.inl (hw _ (List.mem_of_getElem? (i := 23) rfl))) (Or.inl (hw _ (List.mem_of_getElem? (i := 14) rfl))) (by decide) (t := .boolean) (t' := .int) (by decide) (by decide)))
        have Faf_32 := Faf.other W30 (Or.inr (slot_ne (Or.inl (hw _ (List.mem_of_getElem? (i := 31) rfl))) (Or.inl (hw _ (List.mem_of_getElem? (i := 14) rfl))) (by decide) (t := .boolean) (t' := .int) (by decide) (by decide)))
        have Et_32 := Et.wr W30
        have Kp33 := (Keep.refl h0 [oo]).wr W30 (Or.inl (List.mem_of_getElem? (i := 0) rfl))
        have N30 := Fr.snoc X30 N0 gt
        have Fline_30 := Fli.same W30
        refine own_up (S' := T30.setTop (mkF m 80 #[.val (.ref oo), .val (.int p1), .val (.int (0 : Int32))] [(.ref oo)])) (fun t stp => XS.aloadN X30.here hx rfl (hb hby d5_79) rfl rfl stp) ?_
        refine own_up (S' := T30.setTop (mkF m 81 #[.val (.ref oo), .val (.int p1), .val (.int (0 : Int32))] [(.int (1 : Int32)), (.ref oo)])) (fun t stp => XT.iconstV X30.here hx rfl (1 : Int32) (hb hby d5_80) rfl stp) ?_
        refine own_put X30 hx hZ .int hown (hw _ (List.mem_of_getElem? (i := 15) rfl)) Via.refl e30 Fco_32 Et_32 (Or.inl (hw _ (List.mem_of_getElem? (i := 16) rfl))) (hw _ (List.mem_of_getElem? (i := 5) rfl)) (by decide) (v' := (.int (1 : Int32))) (rfl) (rfl) (g' := (mkF m 84 #[.val (.ref oo), .val (.int p1), .val (.int (0 : Int32))] [])) (hb hby d5_81) rfl rfl rfl ?_
        intro T34 h34 X34 e34 W34
        have Zn35 := Nat.le_trans Zn31 (Nat.le_of_eq W34.size.symm)
        have Fline_36 := Fline_30.other W34 (Or.inr (slot_ne (Or.inl (hw _ (List.mem_of_getElem? (i := 14) rfl))) (Or.inl (hw _ (List.mem_of_getElem? (i := 16) rfl))) (by decide) (t := .int) (t' := .int) (by decide) (by decide)))
        have Fxm_36 := Fxm_32.other W34 (Or.inr (slot_ne (Or.inl (hw _ (List.mem_of_getElem? (i := 23) rfl))) (Or.inl (hw _ (List.mem_of_getElem? (i := 16) rfl))) (by decide) (t := .boolean) (t' := .int) (by decide) (by decide)))
        have Faf_36 := Faf_32.other W34 (Or.inr (slot_ne (Or.inl (hw _ (List.mem_of_getElem? (i := 31) rfl))) (Or.inl (hw _ (List.mem_of_getElem? (i := 16) rfl))) (by decide) (t := .boolean) (t' := .int) (by decide) (by decide)))
        have Et_36 := Et_32.wr W34
        have Kp37 := Kp33.wr W34 (Or.inl (List.mem_of_getElem? (i := 0) rfl))
        have N34 := Fr.snoc X34 N30 gt
        have Fcolumn_34 := Fco_32.same W34
        refine own_up (S' := T34.setTop (mkF m 85 #[.val (.ref oo), .val (.int p1), .val (.int (0 : Int32))] [(.ref oo)])) (fun t stp => XS.aloadN X34.here hx rfl (hb hby d5_84) rfl rfl stp) ?_
        refine own_up (S' := T34.setTop (mkF m 86 #[.val (.ref oo), .val (.int p1), .val (.int (0 : Int32))] [(.int p1), (.ref oo)])) (fun t stp => XS.iloadN X34.here hx rfl (hb hby d5_85) rfl stp) ?_
        refine own_up (S' := T34.setTop (mkF m 88 #[.val (.ref oo), .val (.int p1), .val (.int (0 : Int32))] [(.int (13 : Int32)), (.int p1), (.ref oo)])) (fun t stp => XT.bipushV X34.here hx rfl (13 : Int32) (hb hby d5_86) rfl stp) ?_
        have hc88_38 : p1 = (13 : Int32) := hc52_28
        have ihc88_38 : p1.toInt = 13 := own_ieq hc88_38
        refine own_up (S' := T34.setTop (mkF m 91 #[.val (.ref oo), .val (.int p1), .val (.int (0 : Int32))] [(.ref oo)])) (fun t stp => XS.icmpNo X34.here hx rfl (hb hby d5_88) rfl (XT.ii_ne_f hc88_38) stp) ?_
        refine own_up (S' := T34.setTop (mkF m 92 #[.val (.ref oo), .val (.int p1), .val (.int (0 : Int32))] [(.int (1 : Int32)), (.ref oo)])) (fun t stp => XT.iconstV X34.here hx rfl (1 : Int32) (hb hby d5_91) rfl stp) ?_
        refine own_up (S' := T34.setTop (mkF m 96 #[.val (.ref oo), .val (.int p1), .val (.int (0 : Int32))] [(.int (1 : Int32)), (.ref oo)])) (fun t stp => XS.goto X34.here hx rfl (pc0 := 92) (pc' := 96) rfl (hb hby d5_92) (by decide) (by decide) stp) ?_
        refine own_put X34 hx hZ .boolean hown (hw _ (List.mem_of_getElem? (i := 30) rfl)) Via.refl e34 Faf_36 Et_36 (Or.inl (hw _ (List.mem_of_getElem? (i := 31) rfl))) (hw _ (List.mem_of_getElem? (i := 5) rfl)) (by decide) (v' := (.int (1 : Int32))) (rfl) (rfl) (g' := (mkF m 99 #[.val (.ref oo), .val (.int p1), .val (.int (0 : Int32))] [])) (hb hby d5_96) rfl rfl rfl ?_
        intro T39 h39 X39 e39 W39
        have Zn40 := Nat.le_trans Zn35 (Nat.le_of_eq W39.size.symm)
        have Fline_41 := Fline_36.other W39 (Or.inr (slot_ne (Or.inl (hw _ (List.mem_of_getElem? (i := 14) rfl))) (Or.inl (hw _ (List.mem_of_getElem? (i := 31) rfl))) (by decide) (t := .int) (t' := .boolean) (by decide) (by decide)))
        have Fcolumn_41 := Fcolumn_34.other W39 (Or.inr (slot_ne (Or.inl (hw _ (List.mem_of_getElem? (i := 16) rfl))) (Or.inl (hw _ (List.mem_of_getElem? (i := 31) rfl))) (by decide) (t := .int) (t' := .boolean) (by decide) (by decide)))
        have Fxm_41 := Fxm_36.other W39 (Or.inr (slot_ne (Or.inl (hw _ (List.mem_of_getElem? (i := 23) rfl))) (Or.inl (hw _ (List.mem_of_getElem? (i := 31) rfl))) (by decide) (t := .boolean) (t' := .boolean) (by decide) (by decide)))
        have Et_41 := Et_36.wr W39
        have Kp42 := Kp37.wr W39 (Or.inl (List.mem_of_getElem? (i := 0) rfl))
        have N39 := Fr.snoc X39 N34 gt
        have FafterCarriageReturn_39 := Faf_36.same W39
        refine own_up (S' := T39.setTop (mkF m 127 #[.val (.ref oo), .val (.int p1), .val (.int (0 : Int32))] [])) (fun t stp => XS.goto X39.here hx rfl (pc0 := 99) (pc' := 127) rfl (hb hby d5_99) (by decide) (by decide) stp) ?_
        refine own_retV X39 hx hlk hret (hb hby d5_127) (by decide) (by decide) ?_
        show own_Q5 Z oo p1 w0 w1 w2 w3 h0 n0 _ T39.heap _
        rw [e39]
        exact ⟨rfl, N39, Kp42, ((by simp [own_ln, own_fd, own_sk, own_en, hc3_1, hc10_25, hc27_26, hc46_27, hc52_28, hc88_38] : (w0 + (1 : Int32)) = (own_ln w0 w2 w3 p1)) ▸ Fline_41), ((by simp [own_cl, own_fd, own_sk, own_en, hc3_1, hc10_25, hc27_26, hc46_27, hc52_28, hc88_38] : (1 : Int32) = (own_cl w1 w2 w3 p1)) ▸ Fcolumn_41), Fxm_41, ((by simp [own_cr, own_fd, own_sk, own_en, hc3_1, hc10_25, hc27_26, hc46_27, hc52_28, hc88_38] : (1 : Int32) = (own_cr w2 w3 p1)) ▸ FafterCarriageReturn_39)⟩
      · have ihc52_28 : p1.toInt ≠ 13 := own_ine hc52_28
        refine own_up (S' := T24.setTop (mkF m 55 #[.val (.ref oo), .val (.int p1), .val (.int (0 : Int32))] [])) (fun t stp => XS.icmpNo X24.here hx rfl (hb hby d5_52) rfl (XT.ii_eq_f hc52_28) stp) ?_
        refine own_up (S' := T24.setTop (mkF m 56 #[.val (.ref oo), .val (.int p1), .val (.int (0 : Int32))] [(.ref oo)])) (fun t stp => XS.aloadN X24.here hx rfl (hb hby d5_55) rfl rfl stp) ?_
        refine own_get X24 hx hZ hown (hw _ (List.mem_of_getElem? (i := 22) rfl)) Via.refl e24 Fxm (g' := (mkF m 59 #[.val (.ref oo), .val (.int p1), .val (.int (0 : Int32))] [(.int w2)])) (hb hby d5_56) rfl rfl rfl ?_
        intro T43 X43 e43
        have hc59_44 : w2 = 0 := hc10_25
        have ihc59_44 : w2.toInt = 0 := own_ieq hc59_44
        refine own_up (S' := T43.setTop (mkF m 102 #[.val (.ref oo), .val (.int p1), .val (.int (0 : Int32))] [])) (fun t stp => XS.ifYes X43.here hx rfl (pc0 := 59) (pc' := 102) rfl (hb hby d5_59) rfl (XT.i0_eq_t hc59_44) (by decide) (by decide) stp) ?_
        refine own_up (S' := T43.setTop (mkF m 103 #[.val (.ref oo), .val (.int p1), .val (.int (0 : Int32))] [(.ref oo)])) (fun t stp => XS.aloadN X43.here hx rfl (hb hby d5_102) rfl rfl stp) ?_
        refine own_up (S' := T43.setTop (mkF m 104 #[.val (.ref oo), .val (.int p1), .val (.int (0 : Int32))] [(.ref oo), (.ref oo)])) (fun t stp => XS.dup X43.here hx rfl (hb hby d5_103) rfl rfl stp) ?_
        refine own_get X43 hx hZ hown (hw _ (List.mem_of_getElem? (i := 15) rfl)) Via.refl e43 Fco (g' := (mkF m 107 #[.val (.ref oo), .val (.int p1), .val (.int (0 : Int32))] [(.int w1), (.ref oo)])) (hb hby d5_104) rfl rfl rfl ?_
        intro T45 X45 e45
        refine own_up (S' := T45.setTop (mkF m 108 #[.val (.ref oo), .val (.int p1), .val (.int (0 : Int32))] [(.int p1), (.int w1), (.ref oo)])) (fun t stp => XS.iloadN X45.here hx rfl (hb hby d5_107) rfl stp) ?_
        refine own_up (S' := T45.setTop (mkF m 110 #[.val (.ref oo), .val (.int p1), .val (.int (0 : Int32))] [(.int (65535 : Int32)), (.int p1), (.int w1), (.ref oo)])) (fun t stp => X45.ldcI hx hown (mvT hZ (hw _ (List.mem_of_getElem? (i := 29) rfl))) rfl (hb hby d5_108) stp) ?_
        by_cases hc110_46 : (65535 : Int32) < p1
        · have ihc110_46 : 65535 < p1.toInt := own_ilt hc110_46
          refine own_up (S' := T45.setTop (mkF m 113 #[.val (.ref oo), .val (.int p1), .val (.int (0 : Int32))] [(.int w1), (.ref oo)])) (fun t stp => XS.icmpNo X45.here hx rfl (hb hby d5_110) rfl (XT.ii_le_f hc110_46) stp) ?_
          refine own_up (S' := T45.setTop (mkF m 114 #[.val (.ref oo), .val (.int p1), .val (.int (0 : Int32))] [(.int (2 : Int32)), (.int w1), (.ref oo)])) (fun t stp => XT.iconstV X45.here hx rfl (2 : Int32) (hb hby d5_113) rfl stp) ?_
          refine own_up (S' := T45.setTop (mkF m 118 #[.val (.ref oo), .val (.int p1), .val (.int (0 : Int32))] [(.int (2 : Int32)), (.int w1), (.ref oo)])) (fun t stp => XS.goto X45.here hx rfl (pc0 := 114) (pc' := 118) rfl (hb hby d5_114) (by decide) (by decide) stp) ?_
          refine own_up (S' := T45.setTop (mkF m 119 #[.val (.ref oo), .val (.int p1), .val (.int (0 : Int32))] [(.int (w1 + (2 : Int32))), (.ref oo)])) (fun t stp => XS.iadd X45.here hx rfl (hb hby d5_118) rfl stp) ?_
          refine own_put X45 hx hZ .int hown (hw _ (List.mem_of_getElem? (i := 15) rfl)) Via.refl e45 Fco Et (Or.inl (hw _ (List.mem_of_getElem? (i := 16) rfl))) (hw _ (List.mem_of_getElem? (i := 5) rfl)) (by decide) (v' := (.int (w1 + (2 : Int32)))) (rfl) (rfl) (g' := (mkF m 122 #[.val (.ref oo), .val (.int p1), .val (.int (0 : Int32))] [])) (hb hby d5_119) rfl rfl rfl ?_
          intro T47 h47 X47 e47 W47
          have Zn48 := Nat.le_trans Z0 (Nat.le_of_eq W47.size.symm)
          have Fli_49 := Fli.other W47 (Or.inr (slot_ne (Or.inl (hw _ (List.mem_of_getElem? (i := 14) rfl))) (Or.inl (hw _ (List.mem_of_getElem? (i := 16) rfl))) (by decide) (t := .int) (t' := .int) (by decide) (by decide)))
          have Fxm_49 := Fxm.other W47 (Or.inr (slot_ne (Or.inl (hw _ (List.mem_of_getElem? (i := 23) rfl))) (Or.inl (hw _ (List.mem_of_getElem? (i := 16) rfl))) (by decide) (t := .boolean) (t' := .int) (by decide) (by decide)))
          have Faf_49 := Faf.other W47 (Or.inr (slot_ne (Or.inl (hw _ (List.mem_of_getElem? (i := 31) rfl))) (Or.inl (hw _ (List.mem_of_getElem? (i := 16) rfl))) (by decide) (t := .boolean) (t' := .int) (by decide) (by decide)))
          have Et_49 := Et.wr W47
          have Kp50 := (Keep.refl h0 [oo]).wr W47 (Or.inl (List.mem_of_getElem? (i := 0) rfl))
          have N47 := Fr.snoc X47 N0 gt
          have Fcolumn_47 := Fco.same W47
          refine own_up (S' := T47.setTop (mkF m 123 #[.val (.ref oo), .val (.int p1), .val (.int (0 : Int32))] [(.ref oo)])) (fun t stp => XS.aloadN X47.here hx rfl (hb hby d5_122) rfl rfl stp) ?_
          refine own_up (S' := T47.setTop (mkF m 124 #[.val (.ref oo), .val (.int p1), .val (.int (0 : Int32))] [(.int (0 : Int32)), (.ref oo)])) (fun t stp => XT.iconstV X47.here hx rfl (0 : Int32) (hb hby d5_123) rfl stp) ?_
          refine own_put X47 hx hZ .boolean hown (hw _ (List.mem_of_getElem? (i := 30) rfl)) Via.refl e47 Faf_49 Et_49 (Or.inl (hw _ (List.mem_of_getElem? (i := 31) rfl))) (hw _ (List.mem_of_getElem? (i := 5) rfl)) (by decide) (v' := (.int (0 : Int32))) (rfl) (rfl) (g' := (mkF m 127 #[.val (.ref oo), .val (.int p1), .val (.int (0 : Int32))] [])) (hb hby d5_124) rfl rfl rfl ?_
          intro T51 h51 X51 e51 W51
          have Zn52 := Nat.le_trans Zn48 (Nat.le_of_eq W51.size.symm)
          have Fli_53 := Fli_49.other W51 (Or.inr (slot_ne (Or.inl (hw _ (List.mem_of_getElem? (i := 14) rfl))) (Or.inl (hw _ (List.mem_of_getElem? (i := 31) rfl))) (by decide) (t := .int) (t' := .boolean) (by decide) (by decide)))
          have Fcolumn_53 := Fcolumn_47.other W51 (Or.inr (slot_ne (Or.inl (hw _ (List.mem_of_getElem? (i := 16) rfl))) (Or.inl (hw _ (List.mem_of_getElem? (i := 31) rfl))) (by decide) (t := .int) (t' := .boolean) (by decide) (by decide)))
          have Fxm_53 := Fxm_49.other W51 (Or.inr (slot_ne (Or.inl (hw _ (List.mem_of_getElem? (i := 23) rfl))) (Or.inl (hw _ (List.mem_of_getElem? (i := 31) rfl))) (by decide) (t := .boolean) (t' := .boolean) (by decide) (by decide)))
          have Et_53 := Et_49.wr W51
          have Kp54 := Kp50.wr W51 (Or.inl (List.mem_of_getElem? (i := 0) rfl))
          have N51 := Fr.snoc X51 N47 gt
          have FafterCarriageReturn_51 := Faf_49.same W51
          refine own_retV X51 hx hlk hret (hb hby d5_127) (by decide) (by decide) ?_
          show own_Q5 Z oo p1 w0 w1 w2 w3 h0 n0 _ T51.heap _
          rw [e51]
          exact ⟨rfl, N51, Kp54, ((by simp [own_ln, own_fd, own_sk, own_en, hc3_1, hc10_25, hc27_26, hc46_27, hc52_28, hc59_44, hc110_46] : w0 = (own_ln w0 w2 w3 p1)) ▸ Fli_53), ((by simp [own_cl, own_fd, own_sk, own_en, hc3_1, hc10_25, hc27_26, hc46_27, hc52_28, hc59_44, hc110_46] : (w1 + (2 : Int32)) = (own_cl w1 w2 w3 p1)) ▸ Fcolumn_53), Fxm_53, ((by simp [own_cr, own_fd, own_sk, own_en, hc3_1, hc10_25, hc27_26, hc46_27, hc52_28, hc59_44, hc110_46] : (0 : Int32) = (own_cr w2 w3 p1)) ▸ FafterCarriageReturn_51)⟩
        · have ihc110_46 : p1.toInt ≤ 65535 := own_inl hc110_46
          refine own_up (S' := T45.setTop (mkF m 117 #[.val (.ref oo), .val (.int p1), .val (.int (0 : Int32))] [(.int w1), (.ref oo)])) (fun t stp => XS.icmpYes X45.here hx rfl (pc0 := 110) (pc' := 117) rfl (hb hby d5_110) rfl (XT.ii_le_t hc110_46) (by decide) (by decide) stp) ?_
          refine own_up (S' := T45.setTop (mkF m 118 #[.val (.ref oo), .val (.int p1), .val (.int (0 : Int32))] [(.int (1 : Int32)), (.int w1), (.ref oo)])) (fun t stp => XT.iconstV X45.here hx rfl (1 : Int32) (hb hby d5_117) rfl stp) ?_
          refine own_up (S' := T45.setTop (mkF m 119 #[.val (.ref oo), .val (.int p1), .val (.int (0 : Int32))] [(.int (w1 + (1 : Int32))), (.ref oo)])) (fun t stp => XS.iadd X45.here hx rfl (hb hby d5_118) rfl stp) ?_
          refine own_put X45 hx hZ .int hown (hw _ (List.mem_of_getElem? (i := 15) rfl)) Via.refl e45 Fco Et (Or.inl (hw _ (List.mem_of_getElem? (i := 16) rfl))) (hw _ (List.mem_of_getElem? (i := 5) rfl)) (by decide) (v' := (.int (w1 + (1 : Int32)))) (rfl) (rfl) (g' := (mkF m 122 #[.val (.ref oo), .val (.int p1), .val (.int (0 : Int32))] [])) (hb hby d5_119) rfl rfl rfl ?_
          intro T55 h55 X55 e55 W55
          have Zn56 := Nat.le_trans Z0 (Nat.le_of_eq W55.size.symm)
          have Fli_57 := Fli.other W55 (Or.inr (slot_ne (Or.inl (hw _ (List.mem_of_getElem? (i := 14) rfl))) (Or.inl (hw _ (List.mem_of_getElem? (i := 16) rfl))) (by decide) (t := .int) (t' := .int) (by decide) (by decide)))
          have Fxm_57 := Fxm.other W55 (Or.inr (slot_ne (Or.inl (hw _ (List.mem_of_getElem? (i := 23) rfl))) (Or.inl (hw _ (List.mem_of_getElem? (i := 16) rfl))) (by decide) (t := .boolean) (t' := .int) (by decide) (by decide)))
          have Faf_57 := Faf.other W55 (Or.inr (slot_ne (Or.inl (hw _ (List.mem_of_getElem? (i := 31) rfl))) (Or.inl (hw _ (List.mem_of_getElem? (i := 16) rfl))) (by decide) (t := .boolean) (t' := .int) (by decide) (by decide)))
          have Et_57 := Et.wr W55
          have Kp58 := (Keep.refl h0 [oo]).wr W55 (Or.inl (List.mem_of_getElem? (i := 0) rfl))
          have N55 := Fr.snoc X55 N0 gt
          have Fcolumn_55 := Fco.same W55
          refine own_up (S' := T55.setTop (mkF m 123 #[.val (.ref oo), .val (.int p1), .val (.int (0 : Int32))] [(.ref oo)])) (fun t stp => XS.aloadN X55.here hx rfl (hb hby d5_122) rfl rfl stp) ?_
          refine own_up (S' := T55.setTop (mkF m 124 #[.val (.ref oo), .val (.int p1), .val (.int (0 : Int32))] [(.int (0 : Int32)), (.ref oo)])) (fun t stp => XT.iconstV X55.here hx rfl (0 : Int32) (hb hby d5_123) rfl stp) ?_
          refine own_put X55 hx hZ .boolean hown (hw _ (List.mem_of_getElem? (i := 30) rfl)) Via.refl e55 Faf_57 Et_57 (Or.inl (hw _ (List.mem_of_getElem? (i := 31) rfl))) (hw _ (List.mem_of_getElem? (i := 5) rfl)) (by decide) (v' := (.int (0 : Int32))) (rfl) (rfl) (g' := (mkF m 127 #[.val (.ref oo), .val (.int p1), .val (.int (0 : Int32))] [])) (hb hby d5_124) rfl rfl rfl ?_
          intro T59 h59 X59 e59 W59
          have Zn60 := Nat.le_trans Zn56 (Nat.le_of_eq W59.size.symm)
          have Fli_61 := Fli_57.other W59 (Or.inr (slot_ne (Or.inl (hw _ (List.mem_of_getElem? (i := 14) rfl))) (Or.inl (hw _ (List.mem_of_getElem? (i := 31) rfl))) (by decide) (t := .int) (t' := .boolean) (by decide) (by decide)))
          have Fcolumn_61 := Fcolumn_55.other W59 (Or.inr (slot_ne (Or.inl (hw _ (List.mem_of_getElem? (i := 16) rfl))) (Or.inl (hw _ (List.mem_of_getElem? (i := 31) rfl))) (by decide) (t := .int) (t' := .boolean) (by decide) (by decide)))
          have Fxm_61 := Fxm_57.other W59 (Or.inr (slot_ne (Or.inl (hw _ (List.mem_of_getElem? (i := 23) rfl))) (Or.inl (hw _ (List.mem_of_getElem? (i := 31) rfl))) (by decide) (t := .boolean) (t' := .boolean) (by decide) (by decide)))
          have Et_61 := Et_57.wr W59
          have Kp62 := Kp58.wr W59 (Or.inl (List.mem_of_getElem? (i := 0) rfl))
          have N59 := Fr.snoc X59 N55 gt
          have FafterCarriageReturn_59 := Faf_57.same W59
          refine own_retV X59 hx hlk hret (hb hby d5_127) (by decide) (by decide) ?_
          show own_Q5 Z oo p1 w0 w1 w2 w3 h0 n0 _ T59.heap _
          rw [e59]
          exact ⟨rfl, N59, Kp62, ((by simp [own_ln, own_fd, own_sk, own_en, hc3_1, hc10_25, hc27_26, hc46_27, hc52_28, hc59_44, hc110_46] : w0 = (own_ln w0 w2 w3 p1)) ▸ Fli_61), ((by simp [own_cl, own_fd, own_sk, own_en, hc3_1, hc10_25, hc27_26, hc46_27, hc52_28, hc59_44, hc110_46] : (w1 + (1 : Int32)) = (own_cl w1 w2 w3 p1)) ▸ Fcolumn_61), Fxm_61, ((by simp [own_cr, own_fd, own_sk, own_en, hc3_1, hc10_25, hc27_26, hc46_27, hc52_28, hc59_44, hc110_46] : (0 : Int32) = (own_cr w2 w3 p1)) ▸ FafterCarriageReturn_59)⟩
    · have ihc10_25 : w2.toInt ≠ 0 := own_ine hc10_25
      refine own_up (S' := T24.setTop (mkF m 13 #[.val (.ref oo), .val (.int p1), .unset] [])) (fun t stp => XS.ifNo X24.here hx rfl (hb hby d5_10) rfl (XT.i0_eq_f hc10_25) stp) ?_
      refine own_up (S' := T24.setTop (mkF m 14 #[.val (.ref oo), .val (.int p1), .unset] [(.int p1)])) (fun t stp => XS.iloadN X24.here hx rfl (hb hby d5_13) rfl stp) ?_
      refine own_up (S' := T24.setTop (mkF m 17 #[.val (.ref oo), .val (.int p1), .unset] [(.int (133 : Int32)), (.int p1)])) (fun t stp => XT.sipushV X24.here hx rfl (133 : Int32) (hb hby d5_14) rfl stp) ?_
      by_cases hc17_63 : p1 = (133 : Int32)
      · have ihc17_63 : p1.toInt = 133 := own_ieq hc17_63
        refine own_up (S' := T24.setTop (mkF m 20 #[.val (.ref oo), .val (.int p1), .unset] [])) (fun t stp => XS.icmpNo X24.here hx rfl (hb hby d5_17) rfl (XT.ii_ne_f hc17_63) stp) ?_
        refine own_up (S' := T24.setTop (mkF m 21 #[.val (.ref oo), .val (.int p1), .unset] [(.int (1 : Int32))])) (fun t stp => XT.iconstV X24.here hx rfl (1 : Int32) (hb hby d5_20) rfl stp) ?_
        refine own_up (S' := T24.setTop (mkF m 25 #[.val (.ref oo), .val (.int p1), .unset] [(.int (1 : Int32))])) (fun t stp => XS.goto X24.here hx rfl (pc0 := 21) (pc' := 25) rfl (hb hby d5_21) (by decide) (by decide) stp) ?_
        refine own_up (S' := T24.setTop (mkF m 26 #[.val (.ref oo), .val (.int p1), .val (.int (1 : Int32))] [])) (fun t stp => XS.istoreN X24.here hx rfl (hb hby d5_25) rfl (l' := #[.val (.ref oo), .val (.int p1), .val (.int (1 : Int32))]) rfl stp) ?_
        refine own_up (S' := T24.setTop (mkF m 27 #[.val (.ref oo), .val (.int p1), .val (.int (1 : Int32))] [(.int (1 : Int32))])) (fun t stp => XS.iloadN X24.here hx rfl (hb hby d5_26) rfl stp) ?_
        have hc27_64 : ¬ ((1 : Int32) = 0) := by decide
        refine own_up (S' := T24.setTop (mkF m 30 #[.val (.ref oo), .val (.int p1), .val (.int (1 : Int32))] [])) (fun t stp => XS.ifNo X24.here hx rfl (hb hby d5_27) rfl (XT.i0_eq_f hc27_64) stp) ?_
        refine own_up (S' := T24.setTop (mkF m 31 #[.val (.ref oo), .val (.int p1), .val (.int (1 : Int32))] [(.ref oo)])) (fun t stp => XS.aloadN X24.here hx rfl (hb hby d5_30) rfl rfl stp) ?_
        refine own_get X24 hx hZ hown (hw _ (List.mem_of_getElem? (i := 30) rfl)) Via.refl e24 Faf (g' := (mkF m 34 #[.val (.ref oo), .val (.int p1), .val (.int (1 : Int32))] [(.int w3)])) (hb hby d5_31) rfl rfl rfl ?_
        intro T65 X65 e65
        by_cases hc34_66 : w3 = 0
        · have ihc34_66 : w3.toInt = 0 := own_ieq hc34_66
          refine own_up (S' := T65.setTop (mkF m 45 #[.val (.ref oo), .val (.int p1), .val (.int (1 : Int32))] [])) (fun t stp => XS.ifYes X65.here hx rfl (pc0 := 34) (pc' := 45) rfl (hb hby d5_34) rfl (XT.i0_eq_t hc34_66) (by decide) (by decide) stp) ?_
          refine own_up (S' := T65.setTop (mkF m 46 #[.val (.ref oo), .val (.int p1), .val (.int (1 : Int32))] [(.int (1 : Int32))])) (fun t stp => XS.iloadN X65.here hx rfl (hb hby d5_45) rfl stp) ?_
          have hc46_67 : ¬ ((1 : Int32) = 0) := hc27_64
          refine own_up (S' := T65.setTop (mkF m 69 #[.val (.ref oo), .val (.int p1), .val (.int (1 : Int32))] [])) (fun t stp => XS.ifYes X65.here hx rfl (pc0 := 46) (pc' := 69) rfl (hb hby d5_46) rfl (XT.i0_ne_t hc46_67) (by decide) (by decide) stp) ?_
          refine own_up (S' := T65.setTop (mkF m 70 #[.val (.ref oo), .val (.int p1), .val (.int (1 : Int32))] [(.ref oo)])) (fun t stp => XS.aloadN X65.here hx rfl (hb hby d5_69) rfl rfl stp) ?_
          refine own_up (S' := T65.setTop (mkF m 71 #[.val (.ref oo), .val (.int p1), .val (.int (1 : Int32))] [(.ref oo), (.ref oo)])) (fun t stp => XS.dup X65.here hx rfl (hb hby d5_70) rfl rfl stp) ?_
          refine own_get X65 hx hZ hown (hw _ (List.mem_of_getElem? (i := 13) rfl)) Via.refl e65 Fli (g' := (mkF m 74 #[.val (.ref oo), .val (.int p1), .val (.int (1 : Int32))] [(.int w0), (.ref oo)])) (hb hby d5_71) rfl rfl rfl ?_
          intro T68 X68 e68
          refine own_up (S' := T68.setTop (mkF m 75 #[.val (.ref oo), .val (.int p1), .val (.int (1 : Int32))] [(.int (1 : Int32)), (.int w0), (.ref oo)])) (fun t stp => XT.iconstV X68.here hx rfl (1 : Int32) (hb hby d5_74) rfl stp) ?_
          refine own_up (S' := T68.setTop (mkF m 76 #[.val (.ref oo), .val (.int p1), .val (.int (1 : Int32))] [(.int (w0 + (1 : Int32))), (.ref oo)])) (fun t stp => XS.iadd X68.here hx rfl (hb hby d5_75) rfl stp) ?_
          refine own_put X68 hx hZ .int hown (hw _ (List.mem_of_getElem? (i := 13) rfl)) Via.refl e68 Fli Et (Or.inl (hw _ (List.mem_of_getElem? (i := 14) rfl))) (hw _ (List.mem_of_getElem? (i := 5) rfl)) (by decide) (v' := (.int (w0 + (1 : Int32)))) (rfl) (rfl) (g' := (mkF m 79 #[.val (.ref oo), .val (.int p1), .val (.int (1 : Int32))] [])) (hb hby d5_76) rfl rfl rfl ?_
          intro T69 h69 X69 e69 W69
          have Zn70 := Nat.le_trans Z0 (Nat.le_of_eq W69.size.symm)
          have Fco_71 := Fco.other W69 (Or.inr (slot_ne (Or.inl (hw _ (List.mem_of_getElem? (i := 16) rfl))) (Or.inl (hw _ (List.mem_of_getElem? (i := 14) rfl))) (by decide) (t := .int) (t' := .int) (by decide) (by decide)))
          have Fxm_71 := Fxm.other W69 (Or.inr (slot_ne (Or.inl (hw _ (List.mem_of_getElem? (i := 23) rfl))) (Or.inl (hw _ (List.mem_of_getElem? (i := 14) rfl))) (by decide) (t := .boolean) (t' := .int) (by decide) (by decide)))
          have Faf_71 := Faf.other W69 (Or.inr (slot_ne (Or.inl (hw _ (List.mem_of_getElem? (i := 31) rfl))) (Or.inl (hw _ (List.mem_of_getElem? (i := 14) rfl))) (by decide) (t := .boolean) (t' := .int) (by decide) (by decide)))
          have Et_71 := Et.wr W69
          have Kp72 := (Keep.refl h0 [oo]).wr W69 (Or.inl (List.mem_of_getElem? (i := 0) rfl))
          have N69 := Fr.snoc X69 N0 gt
          have Fline_69 := Fli.same W69
          refine own_up (S' := T69.setTop (mkF m 80 #[.val (.ref oo), .val (.int p1), .val (.int (1 : Int32))] [(.ref oo)])) (fun t stp => XS.aloadN X69.here hx rfl (hb hby d5_79) rfl rfl stp) ?_
          refine own_up (S' := T69.setTop (mkF m 81 #[.val (.ref oo), .val (.int p1), .val (.int (1 : Int32))] [(.int (1 : Int32)), (.ref oo)])) (fun t stp => XT.iconstV X69.here hx rfl (1 : Int32) (hb hby d5_80) rfl stp) ?_
          refine own_put X69 hx hZ .int hown (hw _ (List.mem_of_getElem? (i := 15) rfl)) Via.refl e69 Fco_71 Et_71 (Or.inl (hw _ (List.mem_of_getElem? (i := 16) rfl))) (hw _ (List.mem_of_getElem? (i := 5) rfl)) (by decide) (v' := (.int (1 : Int32))) (rfl) (rfl) (g' := (mkF m 84 #[.val (.ref oo), .val (.int p1), .val (.int (1 : Int32))] [])) (hb hby d5_81) rfl rfl rfl ?_
          intro T73 h73 X73 e73 W73
          have Zn74 := Nat.le_trans Zn70 (Nat.le_of_eq W73.size.symm)
          have Fline_75 := Fline_69.other W73 (Or.inr (slot_ne (Or.inl (hw _ (List.mem_of_getElem? (i := 14) rfl))) (Or.inl (hw _ (List.mem_of_getElem? (i := 16) rfl))) (by decide) (t := .int) (t' := .int) (by decide) (by decide)))
          have Fxm_75 := Fxm_71.other W73 (Or.inr (slot_ne (Or.inl (hw _ (List.mem_of_getElem? (i := 23) rfl))) (Or.inl (hw _ (List.mem_of_getElem? (i := 16) rfl))) (by decide) (t := .boolean) (t' := .int) (by decide) (by decide)))
          have Faf_75 := Faf_71.other W73 (Or.inr (slot_ne (Or.inl (hw _ (List.mem_of_getElem? (i := 31) rfl))) (Or.inl (hw _ (List.mem_of_getElem? (i := 16) rfl))) (by decide) (t := .boolean) (t' := .int) (by decide) (by decide)))
          have Et_75 := Et_71.wr W73
          have Kp76 := Kp72.wr W73 (Or.inl (List.mem_of_getElem? (i := 0) rfl))
          have N73 := Fr.snoc X73 N69 gt
          have Fcolumn_73 := Fco_71.same W73
          refine own_up (S' := T73.setTop (mkF m 85 #[.val (.ref oo), .val (.int p1), .val (.int (1 : Int32))] [(.ref oo)])) (fun t stp => XS.aloadN X73.here hx rfl (hb hby d5_84) rfl rfl stp) ?_
          refine own_up (S' := T73.setTop (mkF m 86 #[.val (.ref oo), .val (.int p1), .val (.int (1 : Int32))] [(.int p1), (.ref oo)])) (fun t stp => XS.iloadN X73.here hx rfl (hb hby d5_85) rfl stp) ?_
          refine own_up (S' := T73.setTop (mkF m 88 #[.val (.ref oo), .val (.int p1), .val (.int (1 : Int32))] [(.int (13 : Int32)), (.int p1), (.ref oo)])) (fun t stp => XT.bipushV X73.here hx rfl (13 : Int32) (hb hby d5_86) rfl stp) ?_
          have hc88_77 : ¬ (p1 = (13 : Int32)) := by rw [hc17_63]; decide
          have ihc88_77 : p1.toInt ≠ 13 := own_ine hc88_77
          refine own_up (S' := T73.setTop (mkF m 95 #[.val (.ref oo), .val (.int p1), .val (.int (1 : Int32))] [(.ref oo)])) (fun t stp => XS.icmpYes X73.here hx rfl (pc0 := 88) (pc' := 95) rfl (hb hby d5_88) rfl (XT.ii_ne_t hc88_77) (by decide) (by decide) stp) ?_
          refine own_up (S' := T73.setTop (mkF m 96 #[.val (.ref oo), .val (.int p1), .val (.int (1 : Int32))] [(.int (0 : Int32)), (.ref oo)])) (fun t stp => XT.iconstV X73.here hx rfl (0 : Int32) (hb hby d5_95) rfl stp) ?_
          refine own_put X73 hx hZ .boolean hown (hw _ (List.mem_of_getElem? (i := 30) rfl)) Via.refl e73 Faf_75 Et_75 (Or.inl (hw _ (List.mem_of_getElem? (i := 31) rfl))) (hw _ (List.mem_of_getElem? (i := 5) rfl)) (by decide) (v' := (.int (0 : Int32))) (rfl) (rfl) (g' := (mkF m 99 #[.val (.ref oo), .val (.int p1), .val (.int (1 : Int32))] [])) (hb hby d5_96) rfl rfl rfl ?_
          intro T78 h78 X78 e78 W78
          have Zn79 := Nat.le_trans Zn74 (Nat.le_of_eq W78.size.symm)
          have Fline_80 := Fline_75.other W78 (Or.inr (slot_ne (Or.inl (hw _ (List.mem_of_getElem? (i := 14) rfl))) (Or.inl (hw _ (List.mem_of_getElem? (i := 31) rfl))) (by decide) (t := .int) (t' := .boolean) (by decide) (by decide)))
          have Fcolumn_80 := Fcolumn_73.other W78 (Or.inr (slot_ne (Or.inl (hw _ (List.mem_of_getElem? (i := 16) rfl))) (Or.inl (hw _ (List.mem_of_getElem? (i := 31) rfl))) (by decide) (t := .int) (t' := .boolean) (by decide) (by decide)))
          have Fxm_80 := Fxm_75.other W78 (Or.inr (slot_ne (Or.inl (hw _ (List.mem_of_getElem? (i := 23) rfl))) (Or.inl (hw _ (List.mem_of_getElem? (i := 31) rfl))) (by decide) (t := .boolean) (t' := .boolean) (by decide) (by decide)))
          have Et_80 := Et_75.wr W78
          have Kp81 := Kp76.wr W78 (Or.inl (List.mem_of_getElem? (i := 0) rfl))
          have N78 := Fr.snoc X78 N73 gt
          have FafterCarriageReturn_78 := Faf_75.same W78
          refine own_up (S' := T78.setTop (mkF m 127 #[.val (.ref oo), .val (.int p1), .val (.int (1 : Int32))] [])) (fun t stp => XS.goto X78.here hx rfl (pc0 := 99) (pc' := 127) rfl (hb hby d5_99) (by decide) (by decide) stp) ?_
          refine own_retV X78 hx hlk hret (hb hby d5_127) (by decide) (by decide) ?_
          show own_Q5 Z oo p1 w0 w1 w2 w3 h0 n0 _ T78.heap _
          rw [e78]
          exact ⟨rfl, N78, Kp81, ((by simp [own_ln, own_fd, own_sk, own_en, hc3_1, hc10_25, hc17_63, hc27_64, hc34_66, hc46_67, hc88_77] : (w0 + (1 : Int32)) = (own_ln w0 w2 w3 p1)) ▸ Fline_80), ((by simp [own_cl, own_fd, own_sk, own_en, hc3_1, hc10_25, hc17_63, hc27_64, hc34_66, hc46_67, hc88_77] : (1 : Int32) = (own_cl w1 w2 w3 p1)) ▸ Fcolumn_80), Fxm_80, ((by simp [own_cr, own_fd, own_sk, own_en, hc3_1, hc10_25, hc17_63, hc27_64, hc34_66, hc46_67, hc88_77] : (0 : Int32) = (own_cr w2 w3 p1)) ▸ FafterCarriageReturn_78)⟩
        · have ihc34_66 : w3.toInt ≠ 0 := own_ine hc34_66
          refine own_up (S' := T65.setTop (mkF m 37 #[.val (.ref oo), .val (.int p1), .val (.int (1 : Int32))] [])) (fun t stp => XS.ifNo X65.here hx rfl (hb hby d5_34) rfl (XT.i0_eq_f hc34_66) stp) ?_
          refine own_up (S' := T65.setTop (mkF m 38 #[.val (.ref oo), .val (.int p1), .val (.int (1 : Int32))] [(.ref oo)])) (fun t stp => XS.aloadN X65.here hx rfl (hb hby d5_37) rfl rfl stp) ?_
          refine own_up (S' := T65.setTop (mkF m 39 #[.val (.ref oo), .val (.int p1), .val (.int (1 : Int32))] [(.int (0 : Int32)), (.ref oo)])) (fun t stp => XT.iconstV X65.here hx rfl (0 : Int32) (hb hby d5_38) rfl stp) ?_
          refine own_put X65 hx hZ .boolean hown (hw _ (List.mem_of_getElem? (i := 30) rfl)) Via.refl e65 Faf Et (Or.inl (hw _ (List.mem_of_getElem? (i := 31) rfl))) (hw _ (List.mem_of_getElem? (i := 5) rfl)) (by decide) (v' := (.int (0 : Int32))) (rfl) (rfl) (g' := (mkF m 42 #[.val (.ref oo), .val (.int p1), .val (.int (1 : Int32))] [])) (hb hby d5_39) rfl rfl rfl ?_
          intro T82 h82 X82 e82 W82
          have Zn83 := Nat.le_trans Z0 (Nat.le_of_eq W82.size.symm)
          have Fli_84 := Fli.other W82 (Or.inr (slot_ne (Or.inl (hw _ (List.mem_of_getElem? (i := 14) rfl))) (Or.inl (hw _ (List.mem_of_getElem? (i := 31) rfl))) (by decide) (t := .int) (t' := .boolean) (by decide) (by decide)))
          have Fco_84 := Fco.other W82 (Or.inr (slot_ne (Or.inl (hw _ (List.mem_of_getElem? (i := 16) rfl))) (Or.inl (hw _ (List.mem_of_getElem? (i := 31) rfl))) (by decide) (t := .int) (t' := .boolean) (by decide) (by decide)))
          have Fxm_84 := Fxm.other W82 (Or.inr (slot_ne (Or.inl (hw _ (List.mem_of_getElem? (i := 23) rfl))) (Or.inl (hw _ (List.mem_of_getElem? (i := 31) rfl))) (by decide) (t := .boolean) (t' := .boolean) (by decide) (by decide)))
          have Et_84 := Et.wr W82
          have Kp85 := (Keep.refl h0 [oo]).wr W82 (Or.inl (List.mem_of_getElem? (i := 0) rfl))
          have N82 := Fr.snoc X82 N0 gt
          have FafterCarriageReturn_82 := Faf.same W82
          refine own_up (S' := T82.setTop (mkF m 127 #[.val (.ref oo), .val (.int p1), .val (.int (1 : Int32))] [])) (fun t stp => XS.goto X82.here hx rfl (pc0 := 42) (pc' := 127) rfl (hb hby d5_42) (by decide) (by decide) stp) ?_
          refine own_retV X82 hx hlk hret (hb hby d5_127) (by decide) (by decide) ?_
          show own_Q5 Z oo p1 w0 w1 w2 w3 h0 n0 _ T82.heap _
          rw [e82]
          exact ⟨rfl, N82, Kp85, ((by simp [own_ln, own_fd, own_sk, own_en, hc3_1, hc10_25, hc17_63, hc27_64, hc34_66] : w0 = (own_ln w0 w2 w3 p1)) ▸ Fli_84), ((by simp [own_cl, own_fd, own_sk, own_en, hc3_1, hc10_25, hc17_63, hc27_64, hc34_66] : w1 = (own_cl w1 w2 w3 p1)) ▸ Fco_84), Fxm_84, ((by simp [own_cr, own_fd, own_sk, own_en, hc3_1, hc10_25, hc17_63, hc27_64, hc34_66] : (0 : Int32) = (own_cr w2 w3 p1)) ▸ FafterCarriageReturn_82)⟩
      · have ihc17_63 : p1.toInt ≠ 133 := own_ine hc17_63
        refine own_up (S' := T24.setTop (mkF m 24 #[.val (.ref oo), .val (.int p1), .unset] [])) (fun t stp => XS.icmpYes X24.here hx rfl (pc0 := 17) (pc' := 24) rfl (hb hby d5_17) rfl (XT.ii_ne_t hc17_63) (by decide) (by decide) stp) ?_
        refine own_up (S' := T24.setTop (mkF m 25 #[.val (.ref oo), .val (.int p1), .unset] [(.int (0 : Int32))])) (fun t stp => XT.iconstV X24.here hx rfl (0 : Int32) (hb hby d5_24) rfl stp) ?_
        refine own_up (S' := T24.setTop (mkF m 26 #[.val (.ref oo), .val (.int p1), .val (.int (0 : Int32))] [])) (fun t stp => XS.istoreN X24.here hx rfl (hb hby d5_25) rfl (l' := #[.val (.ref oo), .val (.int p1), .val (.int (0 : Int32))]) rfl stp) ?_
        refine own_up (S' := T24.setTop (mkF m 27 #[.val (.ref oo), .val (.int p1), .val (.int (0 : Int32))] [(.int (0 : Int32))])) (fun t stp => XS.iloadN X24.here hx rfl (hb hby d5_26) rfl stp) ?_
        have hc27_86 : (0 : Int32) = 0 := by decide
        refine own_up (S' := T24.setTop (mkF m 45 #[.val (.ref oo), .val (.int p1), .val (.int (0 : Int32))] [])) (fun t stp => XS.ifYes X24.here hx rfl (pc0 := 27) (pc' := 45) rfl (hb hby d5_27) rfl (XT.i0_eq_t hc27_86) (by decide) (by decide) stp) ?_
        refine own_up (S' := T24.setTop (mkF m 46 #[.val (.ref oo), .val (.int p1), .val (.int (0 : Int32))] [(.int (0 : Int32))])) (fun t stp => XS.iloadN X24.here hx rfl (hb hby d5_45) rfl stp) ?_
        have hc46_87 : (0 : Int32) = 0 := hc27_86
        refine own_up (S' := T24.setTop (mkF m 49 #[.val (.ref oo), .val (.int p1), .val (.int (0 : Int32))] [])) (fun t stp => XS.ifNo X24.here hx rfl (hb hby d5_46) rfl (XT.i0_ne_f hc46_87) stp) ?_
        refine own_up (S' := T24.setTop (mkF m 50 #[.val (.ref oo), .val (.int p1), .val (.int (0 : Int32))] [(.int p1)])) (fun t stp => XS.iloadN X24.here hx rfl (hb hby d5_49) rfl stp) ?_
        refine own_up (S' := T24.setTop (mkF m 52 #[.val (.ref oo), .val (.int p1), .val (.int (0 : Int32))] [(.int (13 : Int32)), (.int p1)])) (fun t stp => XT.bipushV X24.here hx rfl (13 : Int32) (hb hby d5_50) rfl stp) ?_
        by_cases hc52_88 : p1 = (13 : Int32)
        · have ihc52_88 : p1.toInt = 13 := own_ieq hc52_88
          refine own_up (S' := T24.setTop (mkF m 69 #[.val (.ref oo), .val (.int p1), .val (.int (0 : Int32))] [])) (fun t stp => XS.icmpYes X24.here hx rfl (pc0 := 52) (pc' := 69) rfl (hb hby d5_52) rfl (XT.ii_eq_t hc52_88) (by decide) (by decide) stp) ?_
          refine own_up (S' := T24.setTop (mkF m 70 #[.val (.ref oo), .val (.int p1), .val (.int (0 : Int32))] [(.ref oo)])) (fun t stp => XS.aloadN X24.here hx rfl (hb hby d5_69) rfl rfl stp) ?_
          refine own_up (S' := T24.setTop (mkF m 71 #[.val (.ref oo), .val (.int p1), .val (.int (0 : Int32))] [(.ref oo), (.ref oo)])) (fun t stp => XS.dup X24.here hx rfl (hb hby d5_70) rfl rfl stp) ?_
          refine own_get X24 hx hZ hown (hw _ (List.mem_of_getElem? (i := 13) rfl)) Via.refl e24 Fli (g' := (mkF m 74 #[.val (.ref oo), .val (.int p1), .val (.int (0 : Int32))] [(.int w0), (.ref oo)])) (hb hby d5_71) rfl rfl rfl ?_
          intro T89 X89 e89
          refine own_up (S' := T89.setTop (mkF m 75 #[.val (.ref oo), .val (.int p1), .val (.int (0 : Int32))] [(.int (1 : Int32)), (.int w0), (.ref oo)])) (fun t stp => XT.iconstV X89.here hx rfl (1 : Int32) (hb hby d5_74) rfl stp) ?_
          refine own_up (S' := T89.setTop (mkF m 76 #[.val (.ref oo), .val (.int p1), .val (.int (0 : Int32))] [(.int (w0 + (1 : Int32))), (.ref oo)])) (fun t stp => XS.iadd X89.here hx rfl (hb hby d5_75) rfl stp) ?_
          refine own_put X89 hx hZ .int hown (hw _ (List.mem_of_getElem? (i := 13) rfl)) Via.refl e89 Fli Et (Or.inl (hw _ (List.mem_of_getElem? (i := 14) rfl))) (hw _ (List.mem_of_getElem? (i := 5) rfl)) (by decide) (v' := (.int (w0 + (1 : Int32)))) (rfl) (rfl) (g' := (mkF m 79 #[.val (.ref oo), .val (.int p1), .val (.int (0 : Int32))] [])) (hb hby d5_76) rfl rfl rfl ?_
          intro T90 h90 X90 e90 W90
          have Zn91 := Nat.le_trans Z0 (Nat.le_of_eq W90.size.symm)
          have Fco_92 := Fco.other W90 (Or.inr (slot_ne (Or.inl (hw _ (List.mem_of_getElem? (i := 16) rfl))) (Or.inl (hw _ (List.mem_of_getElem? (i := 14) rfl))) (by decide) (t := .int) (t' := .int) (by decide) (by decide)))
          have Fxm_92 := Fxm.other W90 (Or.inr (slot_ne (Or.inl (hw _ (List.mem_of_getElem? (i := 23) rfl))) (Or.inl (hw _ (List.mem_of_getElem? (i := 14) rfl))) (by decide) (t := .boolean) (t' := .int) (by decide) (by decide)))
          have Faf_92 := Faf.other W90 (Or.inr (slot_ne (Or.inl (hw _ (List.mem_of_getElem? (i := 31) rfl))) (Or.inl (hw _ (List.mem_of_getElem? (i := 14) rfl))) (by decide) (t := .boolean) (t' := .int) (by decide) (by decide)))
          have Et_92 := Et.wr W90
          have Kp93 := (Keep.refl h0 [oo]).wr W90 (Or.inl (List.mem_of_getElem? (i := 0) rfl))
          have N90 := Fr.snoc X90 N0 gt
          have Fline_90 := Fli.same W90
          refine own_up (S' := T90.setTop (mkF m 80 #[.val (.ref oo), .val (.int p1), .val (.int (0 : Int32))] [(.ref oo)])) (fun t stp => XS.aloadN X90.here hx rfl (hb hby d5_79) rfl rfl stp) ?_
          refine own_up (S' := T90.setTop (mkF m 81 #[.val (.ref oo), .val (.int p1), .val (.int (0 : Int32))] [(.int (1 : Int32)), (.ref oo)])) (fun t stp => XT.iconstV X90.here hx rfl (1 : Int32) (hb hby d5_80) rfl stp) ?_
          refine own_put X90 hx hZ .int hown (hw _ (List.mem_of_getElem? (i := 15) rfl)) Via.refl e90 Fco_92 Et_92 (Or.inl (hw _ (List.mem_of_getElem? (i := 16) rfl))) (hw _ (List.mem_of_getElem? (i := 5) rfl)) (by decide) (v' := (.int (1 : Int32))) (rfl) (rfl) (g' := (mkF m 84 #[.val (.ref oo), .val (.int p1), .val (.int (0 : Int32))] [])) (hb hby d5_81) rfl rfl rfl ?_
          intro T94 h94 X94 e94 W94
          have Zn95 := Nat.le_trans Zn91 (Nat.le_of_eq W94.size.symm)
          have Fline_96 := Fline_90.other W94 (Or.inr (slot_ne (Or.inl (hw _ (List.mem_of_getElem? (i := 14) rfl))) (Or.inl (hw _ (List.mem_of_getElem? (i := 16) rfl))) (by decide) (t := .int) (t' := .int) (by decide) (by decide)))
          have Fxm_96 := Fxm_92.other W94 (Or.inr (slot_ne (Or.inl (hw _ (List.mem_of_getElem? (i := 23) rfl))) (Or.inl (hw _ (List.mem_of_getElem? (i := 16) rfl))) (by decide) (t := .boolean) (t' := .int) (by decide) (by decide)))
          have Faf_96 := Faf_92.other W94 (Or.inr (slot_ne (Or.inl (hw _ (List.mem_of_getElem? (i := 31) rfl))) (Or.inl (hw _ (List.mem_of_getElem? (i := 16) rfl))) (by decide) (t := .boolean) (t' := .int) (by decide) (by decide)))
          have Et_96 := Et_92.wr W94
          have Kp97 := Kp93.wr W94 (Or.inl (List.mem_of_getElem? (i := 0) rfl))
          have N94 := Fr.snoc X94 N90 gt
          have Fcolumn_94 := Fco_92.same W94
          refine own_up (S' := T94.setTop (mkF m 85 #[.val (.ref oo), .val (.int p1), .val (.int (0 : Int32))] [(.ref oo)])) (fun t stp => XS.aloadN X94.here hx rfl (hb hby d5_84) rfl rfl stp) ?_
          refine own_up (S' := T94.setTop (mkF m 86 #[.val (.ref oo), .val (.int p1), .val (.int (0 : Int32))] [(.int p1), (.ref oo)])) (fun t stp => XS.iloadN X94.here hx rfl (hb hby d5_85) rfl stp) ?_
          refine own_up (S' := T94.setTop (mkF m 88 #[.val (.ref oo), .val (.int p1), .val (.int (0 : Int32))] [(.int (13 : Int32)), (.int p1), (.ref oo)])) (fun t stp => XT.bipushV X94.here hx rfl (13 : Int32) (hb hby d5_86) rfl stp) ?_
          have hc88_98 : p1 = (13 : Int32) := hc52_88
          have ihc88_98 : p1.toInt = 13 := own_ieq hc88_98
          refine own_up (S' := T94.setTop (mkF m 91 #[.val (.ref oo), .val (.int p1), .val (.int (0 : Int32))] [(.ref oo)])) (fun t stp => XS.icmpNo X94.here hx rfl (hb hby d5_88) rfl (XT.ii_ne_f hc88_98) stp) ?_
          refine own_up (S' := T94.setTop (mkF m 92 #[.val (.ref oo), .val (.int p1), .val (.int (0 : Int32))] [(.int (1 : Int32)), (.ref oo)])) (fun t stp => XT.iconstV X94.here hx rfl (1 : Int32) (hb hby d5_91) rfl stp) ?_
          refine own_up (S' := T94.setTop (mkF m 96 #[.val (.ref oo), .val (.int p1), .val (.int (0 : Int32))] [(.int (1 : Int32)), (.ref oo)])) (fun t stp => XS.goto X94.here hx rfl (pc0 := 92) (pc' := 96) rfl (hb hby d5_92) (by decide) (by decide) stp) ?_
          refine own_put X94 hx hZ .boolean hown (hw _ (List.mem_of_getElem? (i := 30) rfl)) Via.refl e94 Faf_96 Et_96 (Or.inl (hw _ (List.mem_of_getElem? (i := 31) rfl))) (hw _ (List.mem_of_getElem? (i := 5) rfl)) (by decide) (v' := (.int (1 : Int32))) (rfl) (rfl) (g' := (mkF m 99 #[.val (.ref oo), .val (.int p1), .val (.int (0 : Int32))] [])) (hb hby d5_96) rfl rfl rfl ?_
          intro T99 h99 X99 e99 W99
          have Zn100 := Nat.le_trans Zn95 (Nat.le_of_eq W99.size.symm)
          have Fline_101 := Fline_96.other W99 (Or.inr (slot_ne (Or.inl (hw _ (List.mem_of_getElem? (i := 14) rfl))) (Or.inl (hw _ (List.mem_of_getElem? (i := 31) rfl))) (by decide) (t := .int) (t' := .boolean) (by decide) (by decide)))
          have Fcolumn_101 := Fcolumn_94.other W99 (Or.inr (slot_ne (Or.inl (hw _ (List.mem_of_getElem? (i := 16) rfl))) (Or.inl (hw _ (List.mem_of_getElem? (i := 31) rfl))) (by decide) (t := .int) (t' := .boolean) (by decide) (by decide)))
          have Fxm_101 := Fxm_96.other W99 (Or.inr (slot_ne (Or.inl (hw _ (List.mem_of_getElem? (i := 23) rfl))) (Or.inl (hw _ (List.mem_of_getElem? (i := 31) rfl))) (by decide) (t := .boolean) (t' := .boolean) (by decide) (by decide)))
          have Et_101 := Et_96.wr W99
          have Kp102 := Kp97.wr W99 (Or.inl (List.mem_of_getElem? (i := 0) rfl))
          have N99 := Fr.snoc X99 N94 gt
          have FafterCarriageReturn_99 := Faf_96.same W99
          refine own_up (S' := T99.setTop (mkF m 127 #[.val (.ref oo), .val (.int p1), .val (.int (0 : Int32))] [])) (fun t stp => XS.goto X99.here hx rfl (pc0 := 99) (pc' := 127) rfl (hb hby d5_99) (by decide) (by decide) stp) ?_
          refine own_retV X99 hx hlk hret (hb hby d5_127) (by decide) (by decide) ?_
          show own_Q5 Z oo p1 w0 w1 w2 w3 h0 n0 _ T99.heap _
          rw [e99]
          exact ⟨rfl, N99, Kp102, ((by simp [own_ln, own_fd, own_sk, own_en, hc3_1, hc10_25, hc17_63, hc27_86, hc46_87, hc52_88, hc88_98] : (w0 + (1 : Int32)) = (own_ln w0 w2 w3 p1)) ▸ Fline_101), ((by simp [own_cl, own_fd, own_sk, own_en, hc3_1, hc10_25, hc17_63, hc27_86, hc46_87, hc52_88, hc88_98] : (1 : Int32) = (own_cl w1 w2 w3 p1)) ▸ Fcolumn_101), Fxm_101, ((by simp [own_cr, own_fd, own_sk, own_en, hc3_1, hc10_25, hc17_63, hc27_86, hc46_87, hc52_88, hc88_98] : (1 : Int32) = (own_cr w2 w3 p1)) ▸ FafterCarriageReturn_99)⟩
        · have ihc52_88 : p1.toInt ≠ 13 := own_ine hc52_88
          refine own_up (S' := T24.setTop (mkF m 55 #[.val (.ref oo), .val (.int p1), .val (.int (0 : Int32))] [])) (fun t stp => XS.icmpNo X24.here hx rfl (hb hby d5_52) rfl (XT.ii_eq_f hc52_88) stp) ?_
          refine own_up (S' := T24.setTop (mkF m 56 #[.val (.ref oo), .val (.int p1), .val (.int (0 : Int32))] [(.ref oo)])) (fun t stp => XS.aloadN X24.here hx rfl (hb hby d5_55) rfl rfl stp) ?_
          refine own_get X24 hx hZ hown (hw _ (List.mem_of_getElem? (i := 22) rfl)) Via.refl e24 Fxm (g' := (mkF m 59 #[.val (.ref oo), .val (.int p1), .val (.int (0 : Int32))] [(.int w2)])) (hb hby d5_56) rfl rfl rfl ?_
          intro T103 X103 e103
          have hc59_104 : ¬ (w2 = 0) := hc10_25
          have ihc59_104 : w2.toInt ≠ 0 := own_ine hc59_104
          refine own_up (S' := T103.setTop (mkF m 62 #[.val (.ref oo), .val (.int p1), .val (.int (0 : Int32))] [])) (fun t stp => XS.ifNo X103.here hx rfl (hb hby d5_59) rfl (XT.i0_eq_f hc59_104) stp) ?_
          refine own_up (S' := T103.setTop (mkF m 63 #[.val (.ref oo), .val (.int p1), .val (.int (0 : Int32))] [(.int p1)])) (fun t stp => XS.iloadN X103.here hx rfl (hb hby d5_62) rfl stp) ?_
          refine own_up (S' := T103.setTop (mkF m 66 #[.val (.ref oo), .val (.int p1), .val (.int (0 : Int32))] [(.int (8232 : Int32)), (.int p1)])) (fun t stp => XT.sipushV X103.here hx rfl (8232 : Int32) (hb hby d5_63) rfl stp) ?_
          by_cases hc66_105 : p1 = (8232 : Int32)
          · have ihc66_105 : p1.toInt = 8232 := own_ieq hc66_105
            refine own_up (S' := T103.setTop (mkF m 69 #[.val (.ref oo), .val (.int p1), .val (.int (0 : Int32))] [])) (fun t stp => XS.icmpNo X103.here hx rfl (hb hby d5_66) rfl (XT.ii_ne_f hc66_105) stp) ?_
            refine own_up (S' := T103.setTop (mkF m 70 #[.val (.ref oo), .val (.int p1), .val (.int (0 : Int32))] [(.ref oo)])) (fun t stp => XS.aloadN X103.here hx rfl (hb hby d5_69) rfl rfl stp) ?_
            refine own_up (S' := T103.setTop (mkF m 71 #[.val (.ref oo), .val (.int p1), .val (.int (0 : Int32))] [(.ref oo), (.ref oo)])) (fun t stp => XS.dup X103.here hx rfl (hb hby d5_70) rfl rfl stp) ?_
            refine own_get X103 hx hZ hown (hw _ (List.mem_of_getElem? (i := 13) rfl)) Via.refl e103 Fli (g' := (mkF m 74 #[.val (.ref oo), .val (.int p1), .val (.int (0 : Int32))] [(.int w0), (.ref oo)])) (hb hby d5_71) rfl rfl rfl ?_
            intro T106 X106 e106
            refine own_up (S' := T106.setTop (mkF m 75 #[.val (.ref oo), .val (.int p1), .val (.int (0 : Int32))] [(.int (1 : Int32)), (.int w0), (.ref oo)])) (fun t stp => XT.iconstV X106.here hx rfl (1 : Int32) (hb hby d5_74) rfl stp) ?_
            refine own_up (S' := T106.setTop (mkF m 76 #[.val (.ref oo), .val (.int p1), .val (.int (0 : Int32))] [(.int (w0 + (1 : Int32))), (.ref oo)])) (fun t stp => XS.iadd X106.here hx rfl (hb hby d5_75) rfl stp) ?_
            refine own_put X106 hx hZ .int hown (hw _ (List.mem_of_getElem? (i := 13) rfl)) Via.refl e106 Fli Et (Or.inl (hw _ (List.mem_of_getElem? (i := 14) rfl))) (hw _ (List.mem_of_getElem? (i := 5) rfl)) (by decide) (v' := (.int (w0 + (1 : Int32)))) (rfl) (rfl) (g' := (mkF m 79 #[.val (.ref oo), .val (.int p1), .val (.int (0 : Int32))] [])) (hb hby d5_76) rfl rfl rfl ?_
            intro T107 h107 X107 e107 W107
            have Zn108 := Nat.le_trans Z0 (Nat.le_of_eq W107.size.symm)
            have Fco_109 := Fco.other W107 (Or.inr (slot_ne (Or.inl (hw _ (List.mem_of_getElem? (i := 16) rfl))) (Or.inl (hw _ (List.mem_of_getElem? (i := 14) rfl))) (by decide) (t := .int) (t' := .int) (by decide) (by decide)))
            have Fxm_109 := Fxm.other W107 (Or.inr (slot_ne (Or.inl (hw _ (List.mem_of_getElem? (i := 23) rfl))) (Or.inl (hw _ (List.mem_of_getElem? (i := 14) rfl))) (by decide) (t := .boolean) (t' := .int) (by decide) (by decide)))
            have Faf_109 := Faf.other W107 (Or.inr (slot_ne (Or.inl (hw _ (List.mem_of_getElem? (i := 31) rfl))) (Or.inl (hw _ (List.mem_of_getElem? (i := 14) rfl))) (by decide) (t := .boolean) (t' := .int) (by decide) (by decide)))
            have Et_109 := Et.wr W107
            have Kp110 := (Keep.refl h0 [oo]).wr W107 (Or.inl (List.mem_of_getElem? (i := 0) rfl))
            have N107 := Fr.snoc X107 N0 gt
            have Fline_107 := Fli.same W107
            refine own_up (S' := T107.setTop (mkF m 80 #[.val (.ref oo), .val (.int p1), .val (.int (0 : Int32))] [(.ref oo)])) (fun t stp => XS.aloadN X107.here hx rfl (hb hby d5_79) rfl rfl stp) ?_
            refine own_up (S' := T107.setTop (mkF m 81 #[.val (.ref oo), .val (.int p1), .val (.int (0 : Int32))] [(.int (1 : Int32)), (.ref oo)])) (fun t stp => XT.iconstV X107.here hx rfl (1 : Int32) (hb hby d5_80) rfl stp) ?_
            refine own_put X107 hx hZ .int hown (hw _ (List.mem_of_getElem? (i := 15) rfl)) Via.refl e107 Fco_109 Et_109 (Or.inl (hw _ (List.mem_of_getElem? (i := 16) rfl))) (hw _ (List.mem_of_getElem? (i := 5) rfl)) (by decide) (v' := (.int (1 : Int32))) (rfl) (rfl) (g' := (mkF m 84 #[.val (.ref oo), .val (.int p1), .val (.int (0 : Int32))] [])) (hb hby d5_81) rfl rfl rfl ?_
            intro T111 h111 X111 e111 W111
            have Zn112 := Nat.le_trans Zn108 (Nat.le_of_eq W111.size.symm)
            have Fline_113 := Fline_107.other W111 (Or.inr (slot_ne (Or.inl (hw _ (List.mem_of_getElem? (i := 14) rfl))) (Or.inl (hw _ (List.mem_of_getElem? (i := 16) rfl))) (by decide) (t := .int) (t' := .int) (by decide) (by decide)))
            have Fxm_113 := Fxm_109.other W111 (Or.inr (slot_ne (Or.inl (hw _ (List.mem_of_getElem? (i := 23) rfl))) (Or.inl (hw _ (List.mem_of_getElem? (i := 16) rfl))) (by decide) (t := .boolean) (t' := .int) (by decide) (by decide)))
            have Faf_113 := Faf_109.other W111 (Or.inr (slot_ne (Or.inl (hw _ (List.mem_of_getElem? (i := 31) rfl))) (Or.inl (hw _ (List.mem_of_getElem? (i := 16) rfl))) (by decide) (t := .boolean) (t' := .int) (by decide) (by decide)))
            have Et_113 := Et_109.wr W111
            have Kp114 := Kp110.wr W111 (Or.inl (List.mem_of_getElem? (i := 0) rfl))
            have N111 := Fr.snoc X111 N107 gt
            have Fcolumn_111 := Fco_109.same W111
            refine own_up (S' := T111.setTop (mkF m 85 #[.val (.ref oo), .val (.int p1), .val (.int (0 : Int32))] [(.ref oo)])) (fun t stp => XS.aloadN X111.here hx rfl (hb hby d5_84) rfl rfl stp) ?_
            refine own_up (S' := T111.setTop (mkF m 86 #[.val (.ref oo), .val (.int p1), .val (.int (0 : Int32))] [(.int p1), (.ref oo)])) (fun t stp => XS.iloadN X111.here hx rfl (hb hby d5_85) rfl stp) ?_
            refine own_up (S' := T111.setTop (mkF m 88 #[.val (.ref oo), .val (.int p1), .val (.int (0 : Int32))] [(.int (13 : Int32)), (.int p1), (.ref oo)])) (fun t stp => XT.bipushV X111.here hx rfl (13 : Int32) (hb hby d5_86) rfl stp) ?_
            have hc88_115 : ¬ (p1 = (13 : Int32)) := hc52_88
            have ihc88_115 : p1.toInt ≠ 13 := own_ine hc88_115
            refine own_up (S' := T111.setTop (mkF m 95 #[.val (.ref oo), .val (.int p1), .val (.int (0 : Int32))] [(.ref oo)])) (fun t stp => XS.icmpYes X111.here hx rfl (pc0 := 88) (pc' := 95) rfl (hb hby d5_88) rfl (XT.ii_ne_t hc88_115) (by decide) (by decide) stp) ?_
            refine own_up (S' := T111.setTop (mkF m 96 #[.val (.ref oo), .val (.int p1), .val (.int (0 : Int32))] [(.int (0 : Int32)), (.ref oo)])) (fun t stp => XT.iconstV X111.here hx rfl (0 : Int32) (hb hby d5_95) rfl stp) ?_
            refine own_put X111 hx hZ .boolean hown (hw _ (List.mem_of_getElem? (i := 30) rfl)) Via.refl e111 Faf_113 Et_113 (Or.inl (hw _ (List.mem_of_getElem? (i := 31) rfl))) (hw _ (List.mem_of_getElem? (i := 5) rfl)) (by decide) (v' := (.int (0 : Int32))) (rfl) (rfl) (g' := (mkF m 99 #[.val (.ref oo), .val (.int p1), .val (.int (0 : Int32))] [])) (hb hby d5_96) rfl rfl rfl ?_
            intro T116 h116 X116 e116 W116
            have Zn117 := Nat.le_trans Zn112 (Nat.le_of_eq W116.size.symm)
            have Fline_118 := Fline_113.other W116 (Or.inr (slot_ne (Or.inl (hw _ (List.mem_of_getElem? (i := 14) rfl))) (Or.inl (hw _ (List.mem_of_getElem? (i := 31) rfl))) (by decide) (t := .int) (t' := .boolean) (by decide) (by decide)))
            have Fcolumn_118 := Fcolumn_111.other W116 (Or.inr (slot_ne (Or.inl (hw _ (List.mem_of_getElem? (i := 16) rfl))) (Or.inl (hw _ (List.mem_of_getElem? (i := 31) rfl))) (by decide) (t := .int) (t' := .boolean) (by decide) (by decide)))
            have Fxm_118 := Fxm_113.other W116 (Or.inr (slot_ne (Or.inl (hw _ (List.mem_of_getElem? (i := 23) rfl))) (Or.inl (hw _ (List.mem_of_getElem? (i := 31) rfl))) (by decide) (t := .boolean) (t' := .boolean) (by decide) (by decide)))
            have Et_118 := Et_113.wr W116
            have Kp119 := Kp114.wr W116 (Or.inl (List.mem_of_getElem? (i := 0) rfl))
            have N116 := Fr.snoc X116 N111 gt
            have FafterCarriageReturn_116 := Faf_113.same W116
            refine own_up (S' := T116.setTop (mkF m 127 #[.val (.ref oo), .val (.int p1), .val (.int (0 : Int32))] [])) (fun t stp => XS.goto X116.here hx rfl (pc0 := 99) (pc' := 127) rfl (hb hby d5_99) (by decide) (by decide) stp) ?_
            refine own_retV X116 hx hlk hret (hb hby d5_127) (by decide) (by decide) ?_
            show own_Q5 Z oo p1 w0 w1 w2 w3 h0 n0 _ T116.heap _
            rw [e116]
            exact ⟨rfl, N116, Kp119, ((by simp [own_ln, own_fd, own_sk, own_en, hc3_1, hc10_25, hc17_63, hc27_86, hc46_87, hc52_88, hc59_104, hc66_105, hc88_115] : (w0 + (1 : Int32)) = (own_ln w0 w2 w3 p1)) ▸ Fline_118), ((by simp [own_cl, own_fd, own_sk, own_en, hc3_1, hc10_25, hc17_63, hc27_86, hc46_87, hc52_88, hc59_104, hc66_105, hc88_115] : (1 : Int32) = (own_cl w1 w2 w3 p1)) ▸ Fcolumn_118), Fxm_118, ((by simp [own_cr, own_fd, own_sk, own_en, hc3_1, hc10_25, hc17_63, hc27_86, hc46_87, hc52_88, hc59_104, hc66_105, hc88_115] : (0 : Int32) = (own_cr w2 w3 p1)) ▸ FafterCarriageReturn_116)⟩
          · have ihc66_105 : p1.toInt ≠ 8232 := own_ine hc66_105
            refine own_up (S' := T103.setTop (mkF m 102 #[.val (.ref oo), .val (.int p1), .val (.int (0 : Int32))] [])) (fun t stp => XS.icmpYes X103.here hx rfl (pc0 := 66) (pc' := 102) rfl (hb hby d5_66) rfl (XT.ii_ne_t hc66_105) (by decide) (by decide) stp) ?_
            refine own_up (S' := T103.setTop (mkF m 103 #[.val (.ref oo), .val (.int p1), .val (.int (0 : Int32))] [(.ref oo)])) (fun t stp => XS.aloadN X103.here hx rfl (hb hby d5_102) rfl rfl stp) ?_
            refine own_up (S' := T103.setTop (mkF m 104 #[.val (.ref oo), .val (.int p1), .val (.int (0 : Int32))] [(.ref oo), (.ref oo)])) (fun t stp => XS.dup X103.here hx rfl (hb hby d5_103) rfl rfl stp) ?_
            refine own_get X103 hx hZ hown (hw _ (List.mem_of_getElem? (i := 15) rfl)) Via.refl e103 Fco (g' := (mkF m 107 #[.val (.ref oo), .val (.int p1), .val (.int (0 : Int32))] [(.int w1), (.ref oo)])) (hb hby d5_104) rfl rfl rfl ?_
            intro T120 X120 e120
            refine own_up (S' := T120.setTop (mkF m 108 #[.val (.ref oo), .val (.int p1), .val (.int (0 : Int32))] [(.int p1), (.int w1), (.ref oo)])) (fun t stp => XS.iloadN X120.here hx rfl (hb hby d5_107) rfl stp) ?_
            refine own_up (S' := T120.setTop (mkF m 110 #[.val (.ref oo), .val (.int p1), .val (.int (0 : Int32))] [(.int (65535 : Int32)), (.int p1), (.int w1), (.ref oo)])) (fun t stp => X120.ldcI hx hown (mvT hZ (hw _ (List.mem_of_getElem? (i := 29) rfl))) rfl (hb hby d5_108) stp) ?_
            by_cases hc110_121 : (65535 : Int32) < p1
            · have ihc110_121 : 65535 < p1.toInt := own_ilt hc110_121
              refine own_up (S' := T120.setTop (mkF m 113 #[.val (.ref oo), .val (.int p1), .val (.int (0 : Int32))] [(.int w1), (.ref oo)])) (fun t stp => XS.icmpNo X120.here hx rfl (hb hby d5_110) rfl (XT.ii_le_f hc110_121) stp) ?_
              refine own_up (S' := T120.setTop (mkF m 114 #[.val (.ref oo), .val (.int p1), .val (.int (0 : Int32))] [(.int (2 : Int32)), (.int w1), (.ref oo)])) (fun t stp => XT.iconstV X120.here hx rfl (2 : Int32) (hb hby d5_113) rfl stp) ?_
              refine own_up (S' := T120.setTop (mkF m 118 #[.val (.ref oo), .val (.int p1), .val (.int (0 : Int32))] [(.int (2 : Int32)), (.int w1), (.ref oo)])) (fun t stp => XS.goto X120.here hx rfl (pc0 := 114) (pc' := 118) rfl (hb hby d5_114) (by decide) (by decide) stp) ?_
              refine own_up (S' := T120.setTop (mkF m 119 #[.val (.ref oo), .val (.int p1), .val (.int (0 : Int32))] [(.int (w1 + (2 : Int32))), (.ref oo)])) (fun t stp => XS.iadd X120.here hx rfl (hb hby d5_118) rfl stp) ?_
              refine own_put X120 hx hZ .int hown (hw _ (List.mem_of_getElem? (i := 15) rfl)) Via.refl e120 Fco Et (Or.inl (hw _ (List.mem_of_getElem? (i := 16) rfl))) (hw _ (List.mem_of_getElem? (i := 5) rfl)) (by decide) (v' := (.int (w1 + (2 : Int32)))) (rfl) (rfl) (g' := (mkF m 122 #[.val (.ref oo), .val (.int p1), .val (.int (0 : Int32))] [])) (hb hby d5_119) rfl rfl rfl ?_
              intro T122 h122 X122 e122 W122
              have Zn123 := Nat.le_trans Z0 (Nat.le_of_eq W122.size.symm)
              have Fli_124 := Fli.other W122 (Or.inr (slot_ne (Or.inl (hw _ (List.mem_of_getElem? (i := 14) rfl))) (Or.inl (hw _ (List.mem_of_getElem? (i := 16) rfl))) (by decide) (t := .int) (t' := .int) (by decide) (by decide)))
              have Fxm_124 := Fxm.other W122 (Or.inr (slot_ne (Or.inl (hw _ (List.mem_of_getElem? (i := 23) rfl))) (Or.inl (hw _ (List.mem_of_getElem? (i := 16) rfl))) (by decide) (t := .boolean) (t' := .int) (by decide) (by decide)))
              have Faf_124 := Faf.other W122 (Or.inr (slot_ne (Or.inl (hw _ (List.mem_of_getElem? (i := 31) rfl))) (Or.inl (hw _ (List.mem_of_getElem? (i := 16) rfl))) (by decide) (t := .boolean) (t' := .int) (by decide) (by decide)))
              have Et_124 := Et.wr W122
              have Kp125 := (Keep.refl h0 [oo]).wr W122 (Or.inl (List.mem_of_getElem? (i := 0) rfl))
              have N122 := Fr.snoc X122 N0 gt
              have Fcolumn_122 := Fco.same W122
              refine own_up (S' := T122.setTop (mkF m 123 #[.val (.ref oo), .val (.int p1), .val (.int (0 : Int32))] [(.ref oo)])) (fun t stp => XS.aloadN X122.here hx rfl (hb hby d5_122) rfl rfl stp) ?_
              refine own_up (S' := T122.setTop (mkF m 124 #[.val (.ref oo), .val (.int p1), .val (.int (0 : Int32))] [(.int (0 : Int32)), (.ref oo)])) (fun t stp => XT.iconstV X122.here hx rfl (0 : Int32) (hb hby d5_123) rfl stp) ?_
              refine own_put X122 hx hZ .boolean hown (hw _ (List.mem_of_getElem? (i := 30) rfl)) Via.refl e122 Faf_124 Et_124 (Or.inl (hw _ (List.mem_of_getElem? (i := 31) rfl))) (hw _ (List.mem_of_getElem? (i := 5) rfl)) (by decide) (v' := (.int (0 : Int32))) (rfl) (rfl) (g' := (mkF m 127 #[.val (.ref oo), .val (.int p1), .val (.int (0 : Int32))] [])) (hb hby d5_124) rfl rfl rfl ?_
              intro T126 h126 X126 e126 W126
              have Zn127 := Nat.le_trans Zn123 (Nat.le_of_eq W126.size.symm)
              have Fli_128 := Fli_124.other W126 (Or.inr (slot_ne (Or.inl (hw _ (List.mem_of_getElem? (i := 14) rfl))) (Or.inl (hw _ (List.mem_of_getElem? (i := 31) rfl))) (by decide) (t := .int) (t' := .boolean) (by decide) (by decide)))
              have Fcolumn_128 := Fcolumn_122.other W126 (Or.inr (slot_ne (Or.inl (hw _ (List.mem_of_getElem? (i := 16) rfl))) (Or.inl (hw _ (List.mem_of_getElem? (i := 31) rfl))) (by decide) (t := .int) (t' := .boolean) (by decide) (by decide)))
              have Fxm_128 := Fxm_124.other W126 (Or.inr (slot_ne (Or.inl (hw _ (List.mem_of_getElem? (i := 23) rfl))) (Or.inl (hw _ (List.mem_of_getElem? (i := 31) rfl))) (by decide) (t := .boolean) (t' := .boolean) (by decide) (by decide)))
              have Et_128 := Et_124.wr W126
              have Kp129 := Kp125.wr W126 (Or.inl (List.mem_of_getElem? (i := 0) rfl))
              have N126 := Fr.snoc X126 N122 gt
              have FafterCarriageReturn_126 := Faf_124.same W126
              refine own_retV X126 hx hlk hret (hb hby d5_127) (by decide) (by decide) ?_
              show own_Q5 Z oo p1 w0 w1 w2 w3 h0 n0 _ T126.heap _
              rw [e126]
              exact ⟨rfl, N126, Kp129, ((by simp [own_ln, own_fd, own_sk, own_en, hc3_1, hc10_25, hc17_63, hc27_86, hc46_87, hc52_88, hc59_104, hc66_105, hc110_121] : w0 = (own_ln w0 w2 w3 p1)) ▸ Fli_128), ((by simp [own_cl, own_fd, own_sk, own_en, hc3_1, hc10_25, hc17_63, hc27_86, hc46_87, hc52_88, hc59_104, hc66_105, hc110_121] : (w1 + (2 : Int32)) = (own_cl w1 w2 w3 p1)) ▸ Fcolumn_128), Fxm_128, ((by simp [own_cr, own_fd, own_sk, own_en, hc3_1, hc10_25, hc17_63, hc27_86, hc46_87, hc52_88, hc59_104, hc66_105, hc110_121] : (0 : Int32) = (own_cr w2 w3 p1)) ▸ FafterCarriageReturn_126)⟩
            · have ihc110_121 : p1.toInt ≤ 65535 := own_inl hc110_121
              refine own_up (S' := T120.setTop (mkF m 117 #[.val (.ref oo), .val (.int p1), .val (.int (0 : Int32))] [(.int w1), (.ref oo)])) (fun t stp => XS.icmpYes X120.here hx rfl (pc0 := 110) (pc' := 117) rfl (hb hby d5_110) rfl (XT.ii_le_t hc110_121) (by decide) (by decide) stp) ?_
              refine own_up (S' := T120.setTop (mkF m 118 #[.val (.ref oo), .val (.int p1), .val (.int (0 : Int32))] [(.int (1 : Int32)), (.int w1), (.ref oo)])) (fun t stp => XT.iconstV X120.here hx rfl (1 : Int32) (hb hby d5_117) rfl stp) ?_
              refine own_up (S' := T120.setTop (mkF m 119 #[.val (.ref oo), .val (.int p1), .val (.int (0 : Int32))] [(.int (w1 + (1 : Int32))), (.ref oo)])) (fun t stp => XS.iadd X120.here hx rfl (hb hby d5_118) rfl stp) ?_
              refine own_put X120 hx hZ .int hown (hw _ (List.mem_of_getElem? (i := 15) rfl)) Via.refl e120 Fco Et (Or.inl (hw _ (List.mem_of_getElem? (i := 16) rfl))) (hw _ (List.mem_of_getElem? (i := 5) rfl)) (by decide) (v' := (.int (w1 + (1 : Int32)))) (rfl) (rfl) (g' := (mkF m 122 #[.val (.ref oo), .val (.int p1), .val (.int (0 : Int32))] [])) (hb hby d5_119) rfl rfl rfl ?_
              intro T130 h130 X130 e130 W130
              have Zn131 := Nat.le_trans Z0 (Nat.le_of_eq W130.size.symm)
              have Fli_132 := Fli.other W130 (Or.inr (slot_ne (Or.inl (hw _ (List.mem_of_getElem? (i := 14) rfl))) (Or.inl (hw _ (List.mem_of_getElem? (i := 16) rfl))) (by decide) (t := .int) (t' := .int) (by decide) (by decide)))
              have Fxm_132 := Fxm.other W130 (Or.inr (slot_ne (Or.inl (hw _ (List.mem_of_getElem? (i := 23) rfl))) (Or.inl (hw _ (List.mem_of_getElem? (i := 16) rfl))) (by decide) (t := .boolean) (t' := .int) (by decide) (by decide)))
              have Faf_132 := Faf.other W130 (Or.inr (slot_ne (Or.inl (hw _ (List.mem_of_getElem? (i := 31) rfl))) (Or.inl (hw _ (List.mem_of_getElem? (i := 16) rfl))) (by decide) (t := .boolean) (t' := .int) (by decide) (by decide)))
              have Et_132 := Et.wr W130
              have Kp133 := (Keep.refl h0 [oo]).wr W130 (Or.inl (List.mem_of_getElem? (i := 0) rfl))
              have N130 := Fr.snoc X130 N0 gt
              have Fcolumn_130 := Fco.same W130
              refine own_up (S' := T130.setTop (mkF m 123 #[.val (.ref oo), .val (.int p1), .val (.int (0 : Int32))] [(.ref oo)])) (fun t stp => XS.aloadN X130.here hx rfl (hb hby d5_122) rfl rfl stp) ?_
              refine own_up (S' := T130.setTop (mkF m 124 #[.val (.ref oo), .val (.int p1), .val (.int (0 : Int32))] [(.int (0 : Int32)), (.ref oo)])) (fun t stp => XT.iconstV X130.here hx rfl (0 : Int32) (hb hby d5_123) rfl stp) ?_
              refine own_put X130 hx hZ .boolean hown (hw _ (List.mem_of_getElem? (i := 30) rfl)) Via.refl e130 Faf_132 Et_132 (Or.inl (hw _ (List.mem_of_getElem? (i := 31) rfl))) (hw _ (List.mem_of_getElem? (i := 5) rfl)) (by decide) (v' := (.int (0 : Int32))) (rfl) (rfl) (g' := (mkF m 127 #[.val (.ref oo), .val (.int p1), .val (.int (0 : Int32))] [])) (hb hby d5_124) rfl rfl rfl ?_
              intro T134 h134 X134 e134 W134
              have Zn135 := Nat.le_trans Zn131 (Nat.le_of_eq W134.size.symm)
              have Fli_136 := Fli_132.other W134 (Or.inr (slot_ne (Or.inl (hw _ (List.mem_of_getElem? (i := 14) rfl))) (Or.inl (hw _ (List.mem_of_getElem? (i := 31) rfl))) (by decide) (t := .int) (t' := .boolean) (by decide) (by decide)))
              have Fcolumn_136 := Fcolumn_130.other W134 (Or.inr (slot_ne (Or.inl (hw _ (List.mem_of_getElem? (i := 16) rfl))) (Or.inl (hw _ (List.mem_of_getElem? (i := 31) rfl))) (by decide) (t := .int) (t' := .boolean) (by decide) (by decide)))
              have Fxm_136 := Fxm_132.other W134 (Or.inr (slot_ne (Or.inl (hw _ (List.mem_of_getElem? (i := 23) rfl))) (Or.inl (hw _ (List.mem_of_getElem? (i := 31) rfl))) (by decide) (t := .boolean) (t' := .boolean) (by decide) (by decide)))
              have Et_136 := Et_132.wr W134
              have Kp137 := Kp133.wr W134 (Or.inl (List.mem_of_getElem? (i := 0) rfl))
              have N134 := Fr.snoc X134 N130 gt
              have FafterCarriageReturn_134 := Faf_132.same W134
              refine own_retV X134 hx hlk hret (hb hby d5_127) (by decide) (by decide) ?_
              show own_Q5 Z oo p1 w0 w1 w2 w3 h0 n0 _ T134.heap _
              rw [e134]
              exact ⟨rfl, N134, Kp137, ((by simp [own_ln, own_fd, own_sk, own_en, hc3_1, hc10_25, hc17_63, hc27_86, hc46_87, hc52_88, hc59_104, hc66_105, hc110_121] : w0 = (own_ln w0 w2 w3 p1)) ▸ Fli_136), ((by simp [own_cl, own_fd, own_sk, own_en, hc3_1, hc10_25, hc17_63, hc27_86, hc46_87, hc52_88, hc59_104, hc66_105, hc110_121] : (w1 + (1 : Int32)) = (own_cl w1 w2 w3 p1)) ▸ Fcolumn_136), Fxm_136, ((by simp [own_cr, own_fd, own_sk, own_en, hc3_1, hc10_25, hc17_63, hc27_86, hc46_87, hc52_88, hc59_104, hc66_105, hc110_121] : (0 : Int32) = (own_cr w2 w3 p1)) ▸ FafterCarriageReturn_134)⟩
theorem d6_0 : decode method_3_code 0 = .ok (.iload_n 1, 1) := by decide +kernel
theorem d6_1 : decode method_3_code 1 = .ok (.ifCond .ne 5, 3) := by decide +kernel
theorem d6_4 : decode method_3_code 4 = .ok (.iload_n 0, 1) := by decide +kernel
theorem d6_5 : decode method_3_code 5 = .ok (.ireturn, 1) := by decide +kernel
theorem d6_6 : decode method_3_code 6 = .ok (.iload_n 1, 1) := by decide +kernel
theorem d6_7 : decode method_3_code 7 = .ok (.iconst 1, 1) := by decide +kernel
theorem d6_8 : decode method_3_code 8 = .ok (.if_icmp .ne 6, 3) := by decide +kernel
theorem d6_11 : decode method_3_code 11 = .ok (.bipush 10, 2) := by decide +kernel
theorem d6_13 : decode method_3_code 13 = .ok (.ireturn, 1) := by decide +kernel
theorem d6_14 : decode method_3_code 14 = .ok (.iload_n 1, 1) := by decide +kernel
theorem d6_15 : decode method_3_code 15 = .ok (.iconst 2, 1) := by decide +kernel
theorem d6_16 : decode method_3_code 16 = .ok (.if_icmp .ne 6, 3) := by decide +kernel
theorem d6_19 : decode method_3_code 19 = .ok (.bipush 13, 2) := by decide +kernel
theorem d6_21 : decode method_3_code 21 = .ok (.ireturn, 1) := by decide +kernel
theorem d6_22 : decode method_3_code 22 = .ok (.iload_n 1, 1) := by decide +kernel
theorem d6_23 : decode method_3_code 23 = .ok (.iconst 3, 1) := by decide +kernel
theorem d6_24 : decode method_3_code 24 = .ok (.if_icmp .ne 7, 3) := by decide +kernel
theorem d6_27 : decode method_3_code 27 = .ok (.sipush 133, 3) := by decide +kernel
theorem d6_30 : decode method_3_code 30 = .ok (.ireturn, 1) := by decide +kernel
theorem d6_31 : decode method_3_code 31 = .ok (.iload_n 1, 1) := by decide +kernel
theorem d6_32 : decode method_3_code 32 = .ok (.iconst 4, 1) := by decide +kernel
theorem d6_33 : decode method_3_code 33 = .ok (.if_icmp .ne 7, 3) := by decide +kernel
theorem d6_36 : decode method_3_code 36 = .ok (.sipush 8232, 3) := by decide +kernel
theorem d6_39 : decode method_3_code 39 = .ok (.ireturn, 1) := by decide +kernel
theorem d6_40 : decode method_3_code 40 = .ok (.iload_n 1, 1) := by decide +kernel
theorem d6_41 : decode method_3_code 41 = .ok (.iconst 5, 1) := by decide +kernel
theorem d6_42 : decode method_3_code 42 = .ok (.if_icmp .ne 8, 3) := by decide +kernel
theorem d6_45 : decode method_3_code 45 = .ok (.iload_n 0, 1) := by decide +kernel
theorem d6_46 : decode method_3_code 46 = .ok (.ldc 34, 2) := by decide +kernel
theorem d6_48 : decode method_3_code 48 = .ok (.iand, 1) := by decide +kernel
theorem d6_49 : decode method_3_code 49 = .ok (.ireturn, 1) := by decide +kernel
theorem d6_50 : decode method_3_code 50 = .ok (.iload_n 1, 1) := by decide +kernel
theorem d6_51 : decode method_3_code 51 = .ok (.bipush 6, 2) := by decide +kernel
theorem d6_53 : decode method_3_code 53 = .ok (.if_icmp .ne 9, 3) := by decide +kernel
theorem d6_56 : decode method_3_code 56 = .ok (.iload_n 0, 1) := by decide +kernel
theorem d6_57 : decode method_3_code 57 = .ok (.sipush 255, 3) := by decide +kernel
theorem d6_60 : decode method_3_code 60 = .ok (.iand, 1) := by decide +kernel
theorem d6_61 : decode method_3_code 61 = .ok (.ireturn, 1) := by decide +kernel
theorem d6_62 : decode method_3_code 62 = .ok (.iload_n 0, 1) := by decide +kernel
theorem d6_63 : decode method_3_code 63 = .ok (.bipush 31, 2) := by decide +kernel
theorem d6_65 : decode method_3_code 65 = .ok (.iand, 1) := by decide +kernel
theorem d6_66 : decode method_3_code 66 = .ok (.ireturn, 1) := by decide +kernel
def own_R6 : Room := { frames := 0, cells := 0, slots := 0, locals := 0 }
theorem own_ef6 (p0 : Int32) (p1 : Int32) (m : MethodId) : entryFrame m #[(.int p0), (.int p1)] 2 = mkF m 0 #[.val (.int p0), .val (.int p1)] [] := by first | (simp [entryFrame, mkF, argsToLocals, Value.category]; done) | rfl
def own_Q6 (Z : State) (p0 : Int32) (p1 : Int32)  (h0 : Heap) (n0 : Nat) (v : Option Value) (h : Heap) (L : List Loc) : Prop := ∃ r : Int32, v = some (.int r) ∧ (True) ∧ Fr n0 L ∧ h = h0
set_option maxRecDepth 65536 in
set_option maxHeartbeats 40000000 in
theorem rm6 (l : Launch) (Z : State) (a0 : Array Value) (hw : ∀ d ∈ tables_1, d.before a0 Z = true) (ws : List Jvm.Cond) (p0 : Int32) (p1 : Int32)  (h0 : Heap) (n0 : Nat) (Z0 : n0 ≤ h0.size)  :
    MetFree l (⟨"com/example/viewrite/viewrite/io/xml/PlaceMayEndLinePinLaw", "pick", "(II)I"⟩ : MethodName) (head1 (Jvm.Cond.code (⟨"com/example/viewrite/viewrite/io/xml/PlaceMayEndLinePinLaw", "pick", "(II)I"⟩ : MethodName) method_3_code 2 (some .int) :: ws) own_R6) (fun a U => a = #[(.int p0), (.int p1)] ∧ Z.Warmed39 U.vm ∧ U.heap = h0) (fun _ _ _ _ _ => True) (fun _ U o U' => ∃ v L, o = .returned v ∧ own_Q6 Z p0 p1 h0 n0 v U'.heap L ∧ FrameEnd U o U' L own_R6.cells own_R6.slots) := by
  refine own_met (Q := own_Q6 Z p0 p1 h0 n0) (plainFor_of_name (by first | (simp [plainName, overriddenIn]; done) | decide +kernel)) (own_ef6 p0 p1) ?_
  intro p e s m below meth c T0 hx hby hml hown hnm hret hlk hZ e0 X0
  have N0 := Fr.nil n0
  refine own_up (S' := T0.setTop (mkF m 1 #[.val (.int p0), .val (.int p1)] [(.int p1)])) (fun t stp => XS.iloadN X0.here hx rfl (hb hby d6_0) rfl stp) ?_
  by_cases hc1_1 : p1 = 0
  · have ihc1_1 : p1.toInt = 0 := own_ieq hc1_1
    refine own_up (S' := T0.setTop (mkF m 4 #[.val (.int p0), .val (.int p1)] [])) (fun t stp => XS.ifNo X0.here hx rfl (hb hby d6_1) rfl (XT.i0_ne_f hc1_1) stp) ?_
    refine own_up (S' := T0.setTop (mkF m 5 #[.val (.int p0), .val (.int p1)] [(.int p0)])) (fun t stp => XS.iloadN X0.here hx rfl (hb hby d6_4) rfl stp) ?_
    refine own_retI X0 hx hlk hret (hb hby d6_5) (by decide) (by decide) ?_
    show own_Q6 Z p0 p1 h0 n0 _ T0.heap _
    rw [e0]
    exact ⟨p0, rfl, trivial, N0, rfl⟩
  · have ihc1_1 : p1.toInt ≠ 0 := own_ine hc1_1
    refine own_up (S' := T0.setTop (mkF m 6 #[.val (.int p0), .val (.int p1)] [])) (fun t stp => XS.ifYes X0.here hx rfl (pc0 := 1) (pc' := 6) rfl (hb hby d6_1) rfl (XT.i0_ne_t hc1_1) (by decide) (by decide) stp) ?_
    refine own_up (S' := T0.setTop (mkF m 7 #[.val (.int p0), .val (.int p1)] [(.int p1)])) (fun t stp => XS.iloadN X0.here hx rfl (hb hby d6_6) rfl stp) ?_
    refine own_up (S' := T0.setTop (mkF m 8 #[.val (.int p0), .val (.int p1)] [(.int (1 : Int32)), (.int p1)])) (fun t stp => XT.iconstV X0.here hx rfl (1 : Int32) (hb hby d6_7) rfl stp) ?_
    by_cases hc8_2 : p1 = (1 : Int32)
    · have ihc8_2 : p1.toInt = 1 := own_ieq hc8_2
      refine own_up (S' := T0.setTop (mkF m 11 #[.val (.int p0), .val (.int p1)] [])) (fun t stp => XS.icmpNo X0.here hx rfl (hb hby d6_8) rfl (XT.ii_ne_f hc8_2) stp) ?_
      refine own_up (S' := T0.setTop (mkF m 13 #[.val (.int p0), .val (.int p1)] [(.int (10 : Int32))])) (fun t stp => XT.bipushV X0.here hx rfl (10 : Int32) (hb hby d6_11) rfl stp) ?_
      refine own_retI X0 hx hlk hret (hb hby d6_13) (by decide) (by decide) ?_
      show own_Q6 Z p0 p1 h0 n0 _ T0.heap _
      rw [e0]
      exact ⟨(10 : Int32), rfl, trivial, N0, rfl⟩
    · have ihc8_2 : p1.toInt ≠ 1 := own_ine hc8_2
      refine own_up (S' := T0.setTop (mkF m 14 #[.val (.int p0), .val (.int p1)] [])) (fun t stp => XS.icmpYes X0.here hx rfl (pc0 := 8) (pc' := 14) rfl (hb hby d6_8) rfl (XT.ii_ne_t hc8_2) (by decide) (by decide) stp) ?_
      refine own_up (S' := T0.setTop (mkF m 15 #[.val (.int p0), .val (.int p1)] [(.int p1)])) (fun t stp => XS.iloadN X0.here hx rfl (hb hby d6_14) rfl stp) ?_
      refine own_up (S' := T0.setTop (mkF m 16 #[.val (.int p0), .val (.int p1)] [(.int (2 : Int32)), (.int p1)])) (fun t stp => XT.iconstV X0.here hx rfl (2 : Int32) (hb hby d6_15) rfl stp) ?_
      by_cases hc16_3 : p1 = (2 : Int32)
      · have ihc16_3 : p1.toInt = 2 := own_ieq hc16_3
        refine own_up (S' := T0.setTop (mkF m 19 #[.val (.int p0), .val (.int p1)] [])) (fun t stp => XS.icmpNo X0.here hx rfl (hb hby d6_16) rfl (XT.ii_ne_f hc16_3) stp) ?_
        refine own_up (S' := T0.setTop (mkF m 21 #[.val (.int p0), .val (.int p1)] [(.int (13 : Int32))])) (fun t stp => XT.bipushV X0.here hx rfl (13 : Int32) (hb hby d6_19) rfl stp) ?_
        refine own_retI X0 hx hlk hret (hb hby d6_21) (by decide) (by decide) ?_
        show own_Q6 Z p0 p1 h0 n0 _ T0.heap _
        rw [e0]
        exact ⟨(13 : Int32), rfl, trivial, N0, rfl⟩
      · have ihc16_3 : p1.toInt ≠ 2 := own_ine hc16_3
        refine own_up (S' := T0.setTop (mkF m 22 #[.val (.int p0), .val (.int p1)] [])) (fun t stp => XS.icmpYes X0.here hx rfl (pc0 := 16) (pc' := 22) rfl (hb hby d6_16) rfl (XT.ii_ne_t hc16_3) (by decide) (by decide) stp) ?_
        refine own_up (S' := T0.setTop (mkF m 23 #[.val (.int p0), .val (.int p1)] [(.int p1)])) (fun t stp => XS.iloadN X0.here hx rfl (hb hby d6_22) rfl stp) ?_
        refine own_up (S' := T0.setTop (mkF m 24 #[.val (.int p0), .val (.int p1)] [(.int (3 : Int32)), (.int p1)])) (fun t stp => XT.iconstV X0.here hx rfl (3 : Int32) (hb hby d6_23) rfl stp) ?_
        by_cases hc24_4 : p1 = (3 : Int32)
        · have ihc24_4 : p1.toInt = 3 := own_ieq hc24_4
          refine own_up (S' := T0.setTop (mkF m 27 #[.val (.int p0), .val (.int p1)] [])) (fun t stp => XS.icmpNo X0.here hx rfl (hb hby d6_24) rfl (XT.ii_ne_f hc24_4) stp) ?_
          refine own_up (S' := T0.setTop (mkF m 30 #[.val (.int p0), .val (.int p1)] [(.int (133 : Int32))])) (fun t stp => XT.sipushV X0.here hx rfl (133 : Int32) (hb hby d6_27) rfl stp) ?_
          refine own_retI X0 hx hlk hret (hb hby d6_30) (by decide) (by decide) ?_
          show own_Q6 Z p0 p1 h0 n0 _ T0.heap _
          rw [e0]
          exact ⟨(133 : Int32), rfl, trivial, N0, rfl⟩
        · have ihc24_4 : p1.toInt ≠ 3 := own_ine hc24_4
          refine own_up (S' := T0.setTop (mkF m 31 #[.val (.int p0), .val (.int p1)] [])) (fun t stp => XS.icmpYes X0.here hx rfl (pc0 := 24) (pc' := 31) rfl (hb hby d6_24) rfl (XT.ii_ne_t hc24_4) (by decide) (by decide) stp) ?_
          refine own_up (S' := T0.setTop (mkF m 32 #[.val (.int p0), .val (.int p1)] [(.int p1)])) (fun t stp => XS.iloadN X0.here hx rfl (hb hby d6_31) rfl stp) ?_
          refine own_up (S' := T0.setTop (mkF m 33 #[.val (.int p0), .val (.int p1)] [(.int (4 : Int32)), (.int p1)])) (fun t stp => XT.iconstV X0.here hx rfl (4 : Int32) (hb hby d6_32) rfl stp) ?_
          by_cases hc33_5 : p1 = (4 : Int32)
          · have ihc33_5 : p1.toInt = 4 := own_ieq hc33_5
            refine own_up (S' := T0.setTop (mkF m 36 #[.val (.int p0), .val (.int p1)] [])) (fun t stp => XS.icmpNo X0.here hx rfl (hb hby d6_33) rfl (XT.ii_ne_f hc33_5) stp) ?_
            refine own_up (S' := T0.setTop (mkF m 39 #[.val (.int p0), .val (.int p1)] [(.int (8232 : Int32))])) (fun t stp => XT.sipushV X0.here hx rfl (8232 : Int32) (hb hby d6_36) rfl stp) ?_
            refine own_retI X0 hx hlk hret (hb hby d6_39) (by decide) (by decide) ?_
            show own_Q6 Z p0 p1 h0 n0 _ T0.heap _
            rw [e0]
            exact ⟨(8232 : Int32), rfl, trivial, N0, rfl⟩
          · have ihc33_5 : p1.toInt ≠ 4 := own_ine hc33_5
            refine own_up (S' := T0.setTop (mkF m 40 #[.val (.int p0), .val (.int p1)] [])) (fun t stp => XS.icmpYes X0.here hx rfl (pc0 := 33) (pc' := 40) rfl (hb hby d6_33) rfl (XT.ii_ne_t hc33_5) (by decide) (by decide) stp) ?_
            refine own_up (S' := T0.setTop (mkF m 41 #[.val (.int p0), .val (.int p1)] [(.int p1)])) (fun t stp => XS.iloadN X0.here hx rfl (hb hby d6_40) rfl stp) ?_
            refine own_up (S' := T0.setTop (mkF m 42 #[.val (.int p0), .val (.int p1)] [(.int (5 : Int32)), (.int p1)])) (fun t stp => XT.iconstV X0.here hx rfl (5 : Int32) (hb hby d6_41) rfl stp) ?_
            by_cases hc42_6 : p1 = (5 : Int32)
            · have ihc42_6 : p1.toInt = 5 := own_ieq hc42_6
              refine own_up (S' := T0.setTop (mkF m 45 #[.val (.int p0), .val (.int p1)] [])) (fun t stp => XS.icmpNo X0.here hx rfl (hb hby d6_42) rfl (XT.ii_ne_f hc42_6) stp) ?_
              refine own_up (S' := T0.setTop (mkF m 46 #[.val (.int p0), .val (.int p1)] [(.int p0)])) (fun t stp => XS.iloadN X0.here hx rfl (hb hby d6_45) rfl stp) ?_
              refine own_up (S' := T0.setTop (mkF m 48 #[.val (.int p0), .val (.int p1)] [(.int (65535 : Int32)), (.int p0)])) (fun t stp => X0.ldcI hx hown (mvT hZ (hw _ (List.mem_of_getElem? (i := 47) rfl))) rfl (hb hby d6_46) stp) ?_
              refine own_up (S' := T0.setTop (mkF m 49 #[.val (.int p0), .val (.int p1)] [(.int (p0 &&& (65535 : Int32)))])) (fun t stp => XS.iand X0.here hx rfl (hb hby d6_48) rfl stp) ?_
              refine own_retI X0 hx hlk hret (hb hby d6_49) (by decide) (by decide) ?_
              show own_Q6 Z p0 p1 h0 n0 _ T0.heap _
              rw [e0]
              exact ⟨(p0 &&& (65535 : Int32)), rfl, trivial, N0, rfl⟩
            · have ihc42_6 : p1.toInt ≠ 5 := own_ine hc42_6
              refine own_up (S' := T0.setTop (mkF m 50 #[.val (.int p0), .val (.int p1)] [])) (fun t stp => XS.icmpYes X0.here hx rfl (pc0 := 42) (pc' := 50) rfl (hb hby d6_42) rfl (XT.ii_ne_t hc42_6) (by decide) (by decide) stp) ?_
              refine own_up (S' := T0.setTop (mkF m 51 #[.val (.int p0), .val (.int p1)] [(.int p1)])) (fun t stp => XS.iloadN X0.here hx rfl (hb hby d6_50) rfl stp) ?_
              refine own_up (S' := T0.setTop (mkF m 53 #[.val (.int p0), .val (.int p1)] [(.int (6 : Int32)), (.int p1)])) (fun t stp => XT.bipushV X0.here hx rfl (6 : Int32) (hb hby d6_51) rfl stp) ?_
              by_cases hc53_7 : p1 = (6 : Int32)
              · have ihc53_7 : p1.toInt = 6 := own_ieq hc53_7
                refine own_up (S' := T0.setTop (mkF m 56 #[.val (.int p0), .val (.int p1)] [])) (fun t stp => XS.icmpNo X0.here hx rfl (hb hby d6_53) rfl (XT.ii_ne_f hc53_7) stp) ?_
                refine own_up (S' := T0.setTop (mkF m 57 #[.val (.int p0), .val (.int p1)] [(.int p0)])) (fun t stp => XS.iloadN X0.here hx rfl (hb hby d6_56) rfl stp) ?_
                refine own_up (S' := T0.setTop (mkF m 60 #[.val (.int p0), .val (.int p1)] [(.int (255 : Int32)), (.int p0)])) (fun t stp => XT.sipushV X0.here hx rfl (255 : Int32) (hb hby d6_57) rfl stp) ?_
                refine own_up (S' := T0.setTop (mkF m 61 #[.val (.int p0), .val (.int p1)] [(.int (p0 &&& (255 : Int32)))])) (fun t stp => XS.iand X0.here hx rfl (hb hby d6_60) rfl stp) ?_
                refine own_retI X0 hx hlk hret (hb hby d6_61) (by decide) (by decide) ?_
                show own_Q6 Z p0 p1 h0 n0 _ T0.heap _
                rw [e0]
                exact ⟨(p0 &&& (255 : Int32)), rfl, trivial, N0, rfl⟩
              · have ihc53_7 : p1.toInt ≠ 6 := own_ine hc53_7
                refine own_up (S' := T0.setTop (mkF m 62 #[.val (.int p0), .val (.int p1)] [])) (fun t stp => XS.icmpYes X0.here hx rfl (pc0 := 53) (pc' := 62) rfl (hb hby d6_53) rfl (XT.ii_ne_t hc53_7) (by decide) (by decide) stp) ?_
                refine own_up (S' := T0.setTop (mkF m 63 #[.val (.int p0), .val (.int p1)] [(.int p0)])) (fun t stp => XS.iloadN X0.here hx rfl (hb hby d6_62) rfl stp) ?_
                refine own_up (S' := T0.setTop (mkF m 65 #[.val (.int p0), .val (.int p1)] [(.int (31 : Int32)), (.int p0)])) (fun t stp => XT.bipushV X0.here hx rfl (31 : Int32) (hb hby d6_63) rfl stp) ?_
                refine own_up (S' := T0.setTop (mkF m 66 #[.val (.int p0), .val (.int p1)] [(.int (p0 &&& (31 : Int32)))])) (fun t stp => XS.iand X0.here hx rfl (hb hby d6_65) rfl stp) ?_
                refine own_retI X0 hx hlk hret (hb hby d6_66) (by decide) (by decide) ?_
                show own_Q6 Z p0 p1 h0 n0 _ T0.heap _
                rw [e0]
                exact ⟨(p0 &&& (31 : Int32)), rfl, trivial, N0, rfl⟩
theorem d7_0 : decode prog_88_method_4_code 0 = .ok (.iload_n 1, 1) := by decide +kernel
theorem d7_1 : decode prog_88_method_4_code 1 = .ok (.bipush 13, 2) := by decide +kernel
theorem d7_3 : decode prog_88_method_4_code 3 = .ok (.if_icmp .gt 21, 3) := by decide +kernel
theorem d7_6 : decode prog_88_method_4_code 6 = .ok (.iload_n 1, 1) := by decide +kernel
theorem d7_7 : decode prog_88_method_4_code 7 = .ok (.bipush 10, 2) := by decide +kernel
theorem d7_9 : decode prog_88_method_4_code 9 = .ok (.if_icmp .eq 9, 3) := by decide +kernel
theorem d7_12 : decode prog_88_method_4_code 12 = .ok (.iload_n 1, 1) := by decide +kernel
theorem d7_13 : decode prog_88_method_4_code 13 = .ok (.bipush 13, 2) := by decide +kernel
theorem d7_15 : decode prog_88_method_4_code 15 = .ok (.if_icmp .ne 7, 3) := by decide +kernel
theorem d7_18 : decode prog_88_method_4_code 18 = .ok (.iconst 1, 1) := by decide +kernel
theorem d7_19 : decode prog_88_method_4_code 19 = .ok (.goto 4, 3) := by decide +kernel
theorem d7_22 : decode prog_88_method_4_code 22 = .ok (.iconst 0, 1) := by decide +kernel
theorem d7_23 : decode prog_88_method_4_code 23 = .ok (.ireturn, 1) := by decide +kernel
theorem d7_24 : decode prog_88_method_4_code 24 = .ok (.aload_n 0, 1) := by decide +kernel
theorem d7_25 : decode prog_88_method_4_code 25 = .ok (.getfield 16, 3) := by decide +kernel
theorem d7_28 : decode prog_88_method_4_code 28 = .ok (.ifCond .eq 21, 3) := by decide +kernel
theorem d7_31 : decode prog_88_method_4_code 31 = .ok (.iload_n 1, 1) := by decide +kernel
theorem d7_32 : decode prog_88_method_4_code 32 = .ok (.sipush 133, 3) := by decide +kernel
theorem d7_35 : decode prog_88_method_4_code 35 = .ok (.if_icmp .eq 10, 3) := by decide +kernel
theorem d7_38 : decode prog_88_method_4_code 38 = .ok (.iload_n 1, 1) := by decide +kernel
theorem d7_39 : decode prog_88_method_4_code 39 = .ok (.sipush 8232, 3) := by decide +kernel
theorem d7_42 : decode prog_88_method_4_code 42 = .ok (.if_icmp .ne 7, 3) := by decide +kernel
theorem d7_45 : decode prog_88_method_4_code 45 = .ok (.iconst 1, 1) := by decide +kernel
theorem d7_46 : decode prog_88_method_4_code 46 = .ok (.goto 4, 3) := by decide +kernel
theorem d7_49 : decode prog_88_method_4_code 49 = .ok (.iconst 0, 1) := by decide +kernel
theorem d7_50 : decode prog_88_method_4_code 50 = .ok (.ireturn, 1) := by decide +kernel
def own_R7 : Room := { frames := 0, cells := 0, slots := 0, locals := 0 }
theorem own_ef7 (oo : Addr) (p1 : Int32) (m : MethodId) : entryFrame m #[(.ref oo), (.int p1)] 2 = mkF m 0 #[.val (.ref oo), .val (.int p1)] [] := by first | (simp [entryFrame, mkF, argsToLocals, Value.category]; done) | rfl
def own_Q7 (Z : State) (oo : Addr) (p1 : Int32) (w2 : Int32) (h0 : Heap) (n0 : Nat) (v : Option Value) (h : Heap) (L : List Loc) : Prop := v = some (.int (own_may w2 p1)) ∧ Fr n0 L ∧ h = h0
set_option maxRecDepth 65536 in
set_option maxHeartbeats 40000000 in
theorem rm7 (l : Launch) (Z : State) (a0 : Array Value) (hw : ∀ d ∈ tables_1, d.before a0 Z = true) (ws : List Jvm.Cond) (oo : Addr) (p1 : Int32) (w2 : Int32) (h0 : Heap) (n0 : Nat) (Z0 : n0 ≤ h0.size) (Fx : Fld Z h0 oo "com/example/viewrite/viewrite/io/xml/Place" "xml11" "Z" (.int w2)) :
    MetFree l (⟨"com/example/viewrite/viewrite/io/xml/Place", "mayEndLine", "(I)Z"⟩ : MethodName) (head1 (Jvm.Cond.code (⟨"com/example/viewrite/viewrite/io/xml/Place", "mayEndLine", "(I)Z"⟩ : MethodName) prog_88_method_4_code 2 (some .boolean) :: ws) own_R7) (fun a U => a = #[(.ref oo), (.int p1)] ∧ Z.Warmed39 U.vm ∧ U.heap = h0) (fun _ _ _ _ _ => True) (fun _ U o U' => ∃ v L, o = .returned v ∧ own_Q7 Z oo p1 w2 h0 n0 v U'.heap L ∧ FrameEnd U o U' L own_R7.cells own_R7.slots) := by
  refine own_met (Q := own_Q7 Z oo p1 w2 h0 n0) (plainFor_of_name (by first | (simp [plainName, overriddenIn]; done) | decide +kernel)) (own_ef7 oo p1) ?_
  intro p e s m below meth c T0 hx hby hml hown hnm hret hlk hZ e0 X0
  have N0 := Fr.nil n0
  refine own_up (S' := T0.setTop (mkF m 1 #[.val (.ref oo), .val (.int p1)] [(.int p1)])) (fun t stp => XS.iloadN X0.here hx rfl (hb hby d7_0) rfl stp) ?_
  refine own_up (S' := T0.setTop (mkF m 3 #[.val (.ref oo), .val (.int p1)] [(.int (13 : Int32)), (.int p1)])) (fun t stp => XT.bipushV X0.here hx rfl (13 : Int32) (hb hby d7_1) rfl stp) ?_
  by_cases hc3_1 : (13 : Int32) < p1
  · have ihc3_1 : 13 < p1.toInt := own_ilt hc3_1
    refine own_up (S' := T0.setTop (mkF m 24 #[.val (.ref oo), .val (.int p1)] [])) (fun t stp => XS.icmpYes X0.here hx rfl (pc0 := 3) (pc' := 24) rfl (hb hby d7_3) rfl (XT.ii_gt_t hc3_1) (by decide) (by decide) stp) ?_
    refine own_up (S' := T0.setTop (mkF m 25 #[.val (.ref oo), .val (.int p1)] [(.ref oo)])) (fun t stp => XS.aloadN X0.here hx rfl (hb hby d7_24) rfl rfl stp) ?_
    refine own_get X0 hx hZ hown (hw _ (List.mem_of_getElem? (i := 22) rfl)) Via.refl e0 Fx (g' := (mkF m 28 #[.val (.ref oo), .val (.int p1)] [(.int w2)])) (hb hby d7_25) rfl rfl rfl ?_
    intro T2 X2 e2
    by_cases hc28_3 : w2 = 0
    · have ihc28_3 : w2.toInt = 0 := own_ieq hc28_3
      refine own_up (S' := T2.setTop (mkF m 49 #[.val (.ref oo), .val (.int p1)] [])) (fun t stp => XS.ifYes X2.here hx rfl (pc0 := 28) (pc' := 49) rfl (hb hby d7_28) rfl (XT.i0_eq_t hc28_3) (by decide) (by decide) stp) ?_
      refine own_up (S' := T2.setTop (mkF m 50 #[.val (.ref oo), .val (.int p1)] [(.int (0 : Int32))])) (fun t stp => XT.iconstV X2.here hx rfl (0 : Int32) (hb hby d7_49) rfl stp) ?_
      refine own_retN X2 hx hlk (t := .boolean) hret (by simp) (z' := (0 : Int32)) rfl (hb hby d7_50) (by decide) (by decide) ?_
      show own_Q7 Z oo p1 w2 h0 n0 _ T2.heap _
      rw [e2]
      exact ⟨congrArg (fun q => some (Value.int q)) (own_may_0 (by omega)), N0, rfl⟩
    · have ihc28_3 : w2.toInt ≠ 0 := own_ine hc28_3
      refine own_up (S' := T2.setTop (mkF m 31 #[.val (.ref oo), .val (.int p1)] [])) (fun t stp => XS.ifNo X2.here hx rfl (hb hby d7_28) rfl (XT.i0_eq_f hc28_3) stp) ?_
      refine own_up (S' := T2.setTop (mkF m 32 #[.val (.ref oo), .val (.int p1)] [(.int p1)])) (fun t stp => XS.iloadN X2.here hx rfl (hb hby d7_31) rfl stp) ?_
      refine own_up (S' := T2.setTop (mkF m 35 #[.val (.ref oo), .val (.int p1)] [(.int (133 : Int32)), (.int p1)])) (fun t stp => XT.sipushV X2.here hx rfl (133 : Int32) (hb hby d7_32) rfl stp) ?_
      by_cases hc35_4 : p1 = (133 : Int32)
      · have ihc35_4 : p1.toInt = 133 := own_ieq hc35_4
        refine own_up (S' := T2.setTop (mkF m 45 #[.val (.ref oo), .val (.int p1)] [])) (fun t stp => XS.icmpYes X2.here hx rfl (pc0 := 35) (pc' := 45) rfl (hb hby d7_35) rfl (XT.ii_eq_t hc35_4) (by decide) (by decide) stp) ?_
        refine own_up (S' := T2.setTop (mkF m 46 #[.val (.ref oo), .val (.int p1)] [(.int (1 : Int32))])) (fun t stp => XT.iconstV X2.here hx rfl (1 : Int32) (hb hby d7_45) rfl stp) ?_
        refine own_up (S' := T2.setTop (mkF m 50 #[.val (.ref oo), .val (.int p1)] [(.int (1 : Int32))])) (fun t stp => XS.goto X2.here hx rfl (pc0 := 46) (pc' := 50) rfl (hb hby d7_46) (by decide) (by decide) stp) ?_
        refine own_retN X2 hx hlk (t := .boolean) hret (by simp) (z' := (1 : Int32)) rfl (hb hby d7_50) (by decide) (by decide) ?_
        show own_Q7 Z oo p1 w2 h0 n0 _ T2.heap _
        rw [e2]
        exact ⟨congrArg (fun q => some (Value.int q)) (own_may_1 (by omega)), N0, rfl⟩
      · have ihc35_4 : p1.toInt ≠ 133 := own_ine hc35_4
        refine own_up (S' := T2.setTop (mkF m 38 #[.val (.ref oo), .val (.int p1)] [])) (fun t stp => XS.icmpNo X2.here hx rfl (hb hby d7_35) rfl (XT.ii_eq_f hc35_4) stp) ?_
        refine own_up (S' := T2.setTop (mkF m 39 #[.val (.ref oo), .val (.int p1)] [(.int p1)])) (fun t stp => XS.iloadN X2.here hx rfl (hb hby d7_38) rfl stp) ?_
        refine own_up (S' := T2.setTop (mkF m 42 #[.val (.ref oo), .val (.int p1)] [(.int (8232 : Int32)), (.int p1)])) (fun t stp => XT.sipushV X2.here hx rfl (8232 : Int32) (hb hby d7_39) rfl stp) ?_
        by_cases hc42_5 : p1 = (8232 : Int32)
        · have ihc42_5 : p1.toInt = 8232 := own_ieq hc42_5
          refine own_up (S' := T2.setTop (mkF m 45 #[.val (.ref oo), .val (.int p1)] [])) (fun t stp => XS.icmpNo X2.here hx rfl (hb hby d7_42) rfl (XT.ii_ne_f hc42_5) stp) ?_
          refine own_up (S' := T2.setTop (mkF m 46 #[.val (.ref oo), .val (.int p1)] [(.int (1 : Int32))])) (fun t stp => XT.iconstV X2.here hx rfl (1 : Int32) (hb hby d7_45) rfl stp) ?_
          refine own_up (S' := T2.setTop (mkF m 50 #[.val (.ref oo), .val (.int p1)] [(.int (1 : Int32))])) (fun t stp => XS.goto X2.here hx rfl (pc0 := 46) (pc' := 50) rfl (hb hby d7_46) (by decide) (by decide) stp) ?_
          refine own_retN X2 hx hlk (t := .boolean) hret (by simp) (z' := (1 : Int32)) rfl (hb hby d7_50) (by decide) (by decide) ?_
          show own_Q7 Z oo p1 w2 h0 n0 _ T2.heap _
          rw [e2]
          exact ⟨congrArg (fun q => some (Value.int q)) (own_may_1 (by omega)), N0, rfl⟩
        · have ihc42_5 : p1.toInt ≠ 8232 := own_ine hc42_5
          refine own_up (S' := T2.setTop (mkF m 49 #[.val (.ref oo), .val (.int p1)] [])) (fun t stp => XS.icmpYes X2.here hx rfl (pc0 := 42) (pc' := 49) rfl (hb hby d7_42) rfl (XT.ii_ne_t hc42_5) (by decide) (by decide) stp) ?_
          refine own_up (S' := T2.setTop (mkF m 50 #[.val (.ref oo), .val (.int p1)] [(.int (0 : Int32))])) (fun t stp => XT.iconstV X2.here hx rfl (0 : Int32) (hb hby d7_49) rfl stp) ?_
          refine own_retN X2 hx hlk (t := .boolean) hret (by simp) (z' := (0 : Int32)) rfl (hb hby d7_50) (by decide) (by decide) ?_
          show own_Q7 Z oo p1 w2 h0 n0 _ T2.heap _
          rw [e2]
          exact ⟨congrArg (fun q => some (Value.int q)) (own_may_0 (by omega)), N0, rfl⟩
  · have ihc3_1 : p1.toInt ≤ 13 := own_inl hc3_1
    refine own_up (S' := T0.setTop (mkF m 6 #[.val (.ref oo), .val (.int p1)] [])) (fun t stp => XS.icmpNo X0.here hx rfl (hb hby d7_3) rfl (XT.ii_gt_f hc3_1) stp) ?_
    refine own_up (S' := T0.setTop (mkF m 7 #[.val (.ref oo), .val (.int p1)] [(.int p1)])) (fun t stp => XS.iloadN X0.here hx rfl (hb hby d7_6) rfl stp) ?_
    refine own_up (S' := T0.setTop (mkF m 9 #[.val (.ref oo), .val (.int p1)] [(.int (10 : Int32)), (.int p1)])) (fun t stp => XT.bipushV X0.here hx rfl (10 : Int32) (hb hby d7_7) rfl stp) ?_
    by_cases hc9_6 : p1 = (10 : Int32)
    · have ihc9_6 : p1.toInt = 10 := own_ieq hc9_6
      refine own_up (S' := T0.setTop (mkF m 18 #[.val (.ref oo), .val (.int p1)] [])) (fun t stp => XS.icmpYes X0.here hx rfl (pc0 := 9) (pc' := 18) rfl (hb hby d7_9) rfl (XT.ii_eq_t hc9_6) (by decide) (by decide) stp) ?_
      refine own_up (S' := T0.setTop (mkF m 19 #[.val (.ref oo), .val (.int p1)] [(.int (1 : Int32))])) (fun t stp => XT.iconstV X0.here hx rfl (1 : Int32) (hb hby d7_18) rfl stp) ?_
      refine own_up (S' := T0.setTop (mkF m 23 #[.val (.ref oo), .val (.int p1)] [(.int (1 : Int32))])) (fun t stp => XS.goto X0.here hx rfl (pc0 := 19) (pc' := 23) rfl (hb hby d7_19) (by decide) (by decide) stp) ?_
      refine own_retN X0 hx hlk (t := .boolean) hret (by simp) (z' := (1 : Int32)) rfl (hb hby d7_23) (by decide) (by decide) ?_
      show own_Q7 Z oo p1 w2 h0 n0 _ T0.heap _
      rw [e0]
      exact ⟨congrArg (fun q => some (Value.int q)) (own_may_1 (by omega)), N0, rfl⟩
    · have ihc9_6 : p1.toInt ≠ 10 := own_ine hc9_6
      refine own_up (S' := T0.setTop (mkF m 12 #[.val (.ref oo), .val (.int p1)] [])) (fun t stp => XS.icmpNo X0.here hx rfl (hb hby d7_9) rfl (XT.ii_eq_f hc9_6) stp) ?_
      refine own_up (S' := T0.setTop (mkF m 13 #[.val (.ref oo), .val (.int p1)] [(.int p1)])) (fun t stp => XS.iloadN X0.here hx rfl (hb hby d7_12) rfl stp) ?_
      refine own_up (S' := T0.setTop (mkF m 15 #[.val (.ref oo), .val (.int p1)] [(.int (13 : Int32)), (.int p1)])) (fun t stp => XT.bipushV X0.here hx rfl (13 : Int32) (hb hby d7_13) rfl stp) ?_
      by_cases hc15_7 : p1 = (13 : Int32)
      · have ihc15_7 : p1.toInt = 13 := own_ieq hc15_7
        refine own_up (S' := T0.setTop (mkF m 18 #[.val (.ref oo), .val (.int p1)] [])) (fun t stp => XS.icmpNo X0.here hx rfl (hb hby d7_15) rfl (XT.ii_ne_f hc15_7) stp) ?_
        refine own_up (S' := T0.setTop (mkF m 19 #[.val (.ref oo), .val (.int p1)] [(.int (1 : Int32))])) (fun t stp => XT.iconstV X0.here hx rfl (1 : Int32) (hb hby d7_18) rfl stp) ?_
        refine own_up (S' := T0.setTop (mkF m 23 #[.val (.ref oo), .val (.int p1)] [(.int (1 : Int32))])) (fun t stp => XS.goto X0.here hx rfl (pc0 := 19) (pc' := 23) rfl (hb hby d7_19) (by decide) (by decide) stp) ?_
        refine own_retN X0 hx hlk (t := .boolean) hret (by simp) (z' := (1 : Int32)) rfl (hb hby d7_23) (by decide) (by decide) ?_
        show own_Q7 Z oo p1 w2 h0 n0 _ T0.heap _
        rw [e0]
        exact ⟨congrArg (fun q => some (Value.int q)) (own_may_1 (by omega)), N0, rfl⟩
      · have ihc15_7 : p1.toInt ≠ 13 := own_ine hc15_7
        refine own_up (S' := T0.setTop (mkF m 22 #[.val (.ref oo), .val (.int p1)] [])) (fun t stp => XS.icmpYes X0.here hx rfl (pc0 := 15) (pc' := 22) rfl (hb hby d7_15) rfl (XT.ii_ne_t hc15_7) (by decide) (by decide) stp) ?_
        refine own_up (S' := T0.setTop (mkF m 23 #[.val (.ref oo), .val (.int p1)] [(.int (0 : Int32))])) (fun t stp => XT.iconstV X0.here hx rfl (0 : Int32) (hb hby d7_22) rfl stp) ?_
        refine own_retN X0 hx hlk (t := .boolean) hret (by simp) (z' := (0 : Int32)) rfl (hb hby d7_23) (by decide) (by decide) ?_
        show own_Q7 Z oo p1 w2 h0 n0 _ T0.heap _
        rw [e0]
        exact ⟨congrArg (fun q => some (Value.int q)) (own_may_0 (by omega)), N0, rfl⟩
theorem own_ef0 (c1 : Int32) (s1 : Int32) (f1 : Int32) (m : MethodId) : entryFrame m #[(.int c1), (.int s1), (.int f1)] maxLocals = mkF m 0 #[.val (.int c1), .val (.int s1), .val (.int f1), .unset, .unset, .unset, .unset, .unset, .unset, .unset, .unset, .unset] [] := by first | (simp [entryFrame, mkF, argsToLocals, Value.category, maxLocals]; done) | rfl
def own_Q0 (Z : State) (c1 : Int32) (s1 : Int32) (f1 : Int32)  (h0 : Heap) (n0 : Nat) (v : Option Value) (h : Heap) (L : List Loc) : Prop := v = some (.int 1) ∧ Fr n0 L
set_option maxRecDepth 65536 in
set_option maxHeartbeats 40000000 in
theorem rm0 (l : Launch) (Z : State) (a0 : Array Value) (hw : ∀ d ∈ tables_1, d.before a0 Z = true) (ws : List Jvm.Cond) (c1 : Int32) (s1 : Int32) (f1 : Int32)  (h0 : Heap) (n0 : Nat) (Z0 : n0 ≤ h0.size)  :
    MetFree l x (head1 (Jvm.Cond.code x code maxLocals ret :: ws) room_1) (fun a U => a = #[(.int c1), (.int s1), (.int f1)] ∧ Z.Warmed39 U.vm ∧ U.heap = h0) (fun _ _ _ _ _ => True) (fun _ U o U' => ∃ v L, o = .returned v ∧ own_Q0 Z c1 s1 f1 h0 n0 v U'.heap L ∧ FrameEnd U o U' L room_1.cells room_1.slots) := by
  refine own_met (Q := own_Q0 Z c1 s1 f1 h0 n0) (plainFor_of_name (by first | (simp [plainName, overriddenIn, x]; done) | decide +kernel)) (own_ef0 c1 s1 f1) ?_
  intro p e s m below meth c T0 hx hby hml hown hnm hret hlk hZ e0 X0
  have hown : s.vm.findClass "com/example/viewrite/viewrite/io/xml/PlaceMayEndLinePinLaw" = some m.cls := hown
  have N0 := Fr.nil n0
  have zz1 : (1 : Int32).toInt = 1 := rfl
  have zz0 : (0 : Int32).toInt = 0 := rfl
  refine own_up (S' := T0.setTop (mkF m 1 #[.val (.int c1), .val (.int s1), .val (.int f1), .unset, .unset, .unset, .unset, .unset, .unset, .unset, .unset, .unset] [(.int f1)])) (fun t stp => XS.iloadN X0.here hx rfl (hb hby at_0) rfl stp) ?_
  refine own_up (S' := T0.setTop (mkF m 2 #[.val (.int c1), .val (.int s1), .val (.int f1), .unset, .unset, .unset, .unset, .unset, .unset, .unset, .unset, .unset] [(.int (1 : Int32)), (.int f1)])) (fun t stp => XT.iconstV X0.here hx rfl (1 : Int32) (hb hby at_1) rfl stp) ?_
  refine own_up (S' := T0.setTop (mkF m 3 #[.val (.int c1), .val (.int s1), .val (.int f1), .unset, .unset, .unset, .unset, .unset, .unset, .unset, .unset, .unset] [(.int (f1 &&& (1 : Int32)))])) (fun t stp => XS.iand X0.here hx rfl (hb hby at_2) rfl stp) ?_
  by_cases hc3_1 : (f1 &&& (1 : Int32)) = 0
  · have ihc3_1 : (f1 &&& (1 : Int32)).toInt = 0 := own_ieq hc3_1
    refine own_up (S' := T0.setTop (mkF m 10 #[.val (.int c1), .val (.int s1), .val (.int f1), .unset, .unset, .unset, .unset, .unset, .unset, .unset, .unset, .unset] [])) (fun t stp => XS.ifYes X0.here hx rfl (pc0 := 3) (pc' := 10) rfl (hb hby at_3) rfl (XT.i0_eq_t hc3_1) (by decide) (by decide) stp) ?_
    refine own_up (S' := T0.setTop (mkF m 11 #[.val (.int c1), .val (.int s1), .val (.int f1), .unset, .unset, .unset, .unset, .unset, .unset, .unset, .unset, .unset] [(.int (0 : Int32))])) (fun t stp => XT.iconstV X0.here hx rfl (0 : Int32) (hb hby at_10) rfl stp) ?_
    refine own_up (S' := T0.setTop (mkF m 12 #[.val (.int c1), .val (.int s1), .val (.int f1), .val (.int (0 : Int32)), .unset, .unset, .unset, .unset, .unset, .unset, .unset, .unset] [])) (fun t stp => XS.istoreN X0.here hx rfl (hb hby at_11) rfl (l' := #[.val (.int c1), .val (.int s1), .val (.int f1), .val (.int (0 : Int32)), .unset, .unset, .unset, .unset, .unset, .unset, .unset, .unset]) rfl stp) ?_
    refine own_up (S' := T0.setTop (mkF m 13 #[.val (.int c1), .val (.int s1), .val (.int f1), .val (.int (0 : Int32)), .unset, .unset, .unset, .unset, .unset, .unset, .unset, .unset] [(.int c1)])) (fun t stp => XS.iloadN X0.here hx rfl (hb hby at_12) rfl stp) ?_
    refine own_up (S' := T0.setTop (mkF m 14 #[.val (.int c1), .val (.int s1), .val (.int f1), .val (.int (0 : Int32)), .unset, .unset, .unset, .unset, .unset, .unset, .unset, .unset] [(.int s1), (.int c1)])) (fun t stp => XS.iloadN X0.here hx rfl (hb hby at_13) rfl stp) ?_
    refine own_up (S' := T0.setTop (mkF m 16 #[.val (.int c1), .val (.int s1), .val (.int f1), .val (.int (0 : Int32)), .unset, .unset, .unset, .unset, .unset, .unset, .unset, .unset] [(.int (7 : Int32)), (.int s1), (.int c1)])) (fun t stp => XT.bipushV X0.here hx rfl (7 : Int32) (hb hby at_14) rfl stp) ?_
    refine own_up (S' := T0.setTop (mkF m 17 #[.val (.int c1), .val (.int s1), .val (.int f1), .val (.int (0 : Int32)), .unset, .unset, .unset, .unset, .unset, .unset, .unset, .unset] [(.int (s1 &&& (7 : Int32))), (.int c1)])) (fun t stp => XS.iand X0.here hx rfl (hb hby at_16) rfl stp) ?_
    refine own_callS X0 hx hZ hown (hw _ (List.mem_of_getElem? (i := 0) rfl)) (hw _ (List.mem_of_getElem? (i := 1) rfl)) (hw _ (List.mem_of_getElem? (i := 2) rfl)) (hw _ (List.mem_of_getElem? (i := 3) rfl)) (by decide) e0 (rm6 l Z a0 hw [] c1 (s1 &&& (7 : Int32)) h0 n0 Z0 ) 0 [(.int c1), (.int (s1 &&& (7 : Int32)))] [] (hb hby at_17) (lenOf own_pd0 rfl) (by decide) (by decide) (by decide) (by decide) rfl (by rw [hml]; rfl) rfl (by show 2 * 0 + _ ≤ _; exact Nat.le_of_eq rfl) rfl ?_
    intro T2 L2 r2 X2 q2
    obtain ⟨ch, rfl, hr_ch, M2, e2⟩ := q2
    have N2 := Fr.app N0 M2
    show own_Ends p e below s (own_Q0 Z c1 s1 f1 h0 n0) room_1.cells room_1.slots (T2.setTop (mkF m 20 #[.val (.int c1), .val (.int s1), .val (.int f1), .val (.int (0 : Int32)), .unset, .unset, .unset, .unset, .unset, .unset, .unset, .unset] [(.int ch)]))
    refine own_up (S' := T2.setTop (mkF m 22 #[.val (.int c1), .val (.int s1), .val (.int f1), .val (.int (0 : Int32)), .val (.int ch), .unset, .unset, .unset, .unset, .unset, .unset, .unset] [])) (fun t stp => XS.istore X2.here hx rfl (hb hby at_20) rfl (l' := #[.val (.int c1), .val (.int s1), .val (.int f1), .val (.int (0 : Int32)), .val (.int ch), .unset, .unset, .unset, .unset, .unset, .unset, .unset]) rfl stp) ?_
    refine own_new X2 hx hZ hown (hw _ (List.mem_of_getElem? (i := 4) rfl)) (hw _ (List.mem_of_getElem? (i := 5) rfl)) (hw _ (List.mem_of_getElem? (i := 6) rfl)) e2 rfl (hb hby at_22) (by decide) (by decide) ?_
    intro T3 h3 ob hb3 X3 e3 E3 A3 D3
    have g_ob : n0 ≤ ob := Nat.le_trans Z0 (Nat.le_of_eq hb3.symm)
    have Zn4 := Nat.le_trans Z0 E3.1
    have Fline_ob : Fld Z h3 ob "com/example/viewrite/viewrite/io/xml/Place" "line" "I" (.int (0 : Int32)) := D3 (Or.inl (hw _ (List.mem_of_getElem? (i := 14) rfl))) (ty := .int) (by decide)
    have Fcolumn_ob : Fld Z h3 ob "com/example/viewrite/viewrite/io/xml/Place" "column" "I" (.int (0 : Int32)) := D3 (Or.inl (hw _ (List.mem_of_getElem? (i := 16) rfl))) (ty := .int) (by decide)
    have Fxml11_ob : Fld Z h3 ob "com/example/viewrite/viewrite/io/xml/Place" "xml11" "Z" (.int (0 : Int32)) := D3 (Or.inl (hw _ (List.mem_of_getElem? (i := 23) rfl))) (ty := .boolean) (by decide)
    have FafterCarriageReturn_ob : Fld Z h3 ob "com/example/viewrite/viewrite/io/xml/Place" "afterCarriageReturn" "Z" (.int (0 : Int32)) := D3 (Or.inl (hw _ (List.mem_of_getElem? (i := 31) rfl))) (ty := .boolean) (by decide)
    show own_Ends p e below s (own_Q0 Z c1 s1 f1 h0 n0) room_1.cells room_1.slots (T3.setTop (mkF m 25 #[.val (.int c1), .val (.int s1), .val (.int f1), .val (.int (0 : Int32)), .val (.int ch), .unset, .unset, .unset, .unset, .unset, .unset, .unset] [(.ref ob)]))
    refine own_up (S' := T3.setTop (mkF m 26 #[.val (.int c1), .val (.int s1), .val (.int f1), .val (.int (0 : Int32)), .val (.int ch), .unset, .unset, .unset, .unset, .unset, .unset, .unset] [(.ref ob), (.ref ob)])) (fun t stp => XS.dup X3.here hx rfl (hb hby at_25) rfl rfl stp) ?_
    refine own_callI X3 hx hZ rfl hown (hw _ (List.mem_of_getElem? (i := 7) rfl)) (hw _ (List.mem_of_getElem? (i := 8) rfl)) (hw _ (List.mem_of_getElem? (i := 6) rfl)) (hw _ (List.mem_of_getElem? (i := 9) rfl)) (by decide) e3 (rm1 l Z a0 hw [] ob h3 n0 Zn4 Fline_ob Fcolumn_ob Fxml11_ob FafterCarriageReturn_ob A3 g_ob) 1 ob [] [(.ref ob)] (hb hby at_26) (lenOf own_pd1 rfl) (by decide) (by decide) (by decide) (by decide) rfl (by rw [hml]; rfl) rfl (by show 2 * 0 + _ ≤ _; exact Nat.le_of_eq rfl) rfl ?_
    intro T6 L6 r6 X6 q6
    obtain ⟨rfl, M6, K6, G6a_6, G6b_6, G6c_6, G6d_6⟩ := q6
    have N6 := Fr.app N2 M6
    have Zn7 := Nat.le_trans Zn4 K6.1
    have A3_8 := A3.keep K6
    show own_Ends p e below s (own_Q0 Z c1 s1 f1 h0 n0) room_1.cells room_1.slots (T6.setTop (mkF m 29 #[.val (.int c1), .val (.int s1), .val (.int f1), .val (.int (0 : Int32)), .val (.int ch), .unset, .unset, .unset, .unset, .unset, .unset, .unset] [(.ref ob)]))
    refine own_up (S' := T6.setTop (mkF m 31 #[.val (.int c1), .val (.int s1), .val (.int f1), .val (.int (0 : Int32)), .val (.int ch), .val (.ref ob), .unset, .unset, .unset, .unset, .unset, .unset] [])) (fun t stp => XS.astore X6.here hx rfl (hb hby at_29) rfl rfl (l' := #[.val (.int c1), .val (.int s1), .val (.int f1), .val (.int (0 : Int32)), .val (.int ch), .val (.ref ob), .unset, .unset, .unset, .unset, .unset, .unset]) rfl stp) ?_
    refine own_up (S' := T6.setTop (mkF m 32 #[.val (.int c1), .val (.int s1), .val (.int f1), .val (.int (0 : Int32)), .val (.int ch), .val (.ref ob), .unset, .unset, .unset, .unset, .unset, .unset] [(.int (0 : Int32))])) (fun t stp => XS.iloadN X6.here hx rfl (hb hby at_31) rfl stp) ?_
    have hc32_9 : (0 : Int32) = 0 := by decide
    refine own_up (S' := T6.setTop (mkF m 40 #[.val (.int c1), .val (.int s1), .val (.int f1), .val (.int (0 : Int32)), .val (.int ch), .val (.ref ob), .unset, .unset, .unset, .unset, .unset, .unset] [])) (fun t stp => XS.ifYes X6.here hx rfl (pc0 := 32) (pc' := 40) rfl (hb hby at_32) rfl (XT.i0_eq_t hc32_9) (by decide) (by decide) stp) ?_
    refine own_up (S' := T6.setTop (mkF m 42 #[.val (.int c1), .val (.int s1), .val (.int f1), .val (.int (0 : Int32)), .val (.int ch), .val (.ref ob), .unset, .unset, .unset, .unset, .unset, .unset] [(.ref ob)])) (fun t stp => XS.aload X6.here hx rfl (hb hby at_40) rfl rfl stp) ?_
    refine own_up (S' := T6.setTop (mkF m 44 #[.val (.int c1), .val (.int s1), .val (.int f1), .val (.int (0 : Int32)), .val (.int ch), .val (.ref ob), .unset, .unset, .unset, .unset, .unset, .unset] [(.int ch), (.ref ob)])) (fun t stp => XS.iload X6.here hx rfl (hb hby at_42) rfl stp) ?_
    refine own_callV X6 hx hZ hown (hw _ (List.mem_of_getElem? (i := 17) rfl)) (hw _ (List.mem_of_getElem? (i := 18) rfl)) (hw _ (List.mem_of_getElem? (i := 20) rfl)) (hw _ (List.mem_of_getElem? (i := 19) rfl)) (hw _ (List.mem_of_getElem? (i := 6) rfl)) (hw _ (List.mem_of_getElem? (i := 21) rfl)) (by decide) rfl (rm7 l Z a0 hw [] ob ch (0 : Int32) T6.heap n0 Zn7 G6c_6) 0 A3_8 [(.int ch)] [] (hb hby at_44) (lenOf own_pd2 rfl) (by decide) (by decide) (by decide) (by decide) rfl (by rw [hml]; rfl) rfl (by show 2 * 0 + _ ≤ _; exact Nat.le_of_eq rfl) rfl ?_
    intro T10 L10 r10 X10 q10
    obtain ⟨rfl, M10, e10⟩ := q10
    have N10 := Fr.app N6 M10
    show own_Ends p e below s (own_Q0 Z c1 s1 f1 h0 n0) room_1.cells room_1.slots (T10.setTop (mkF m 47 #[.val (.int c1), .val (.int s1), .val (.int f1), .val (.int (0 : Int32)), .val (.int ch), .val (.ref ob), .unset, .unset, .unset, .unset, .unset, .unset] [(.int (own_may (0 : Int32) ch))]))
    obtain ⟨may, h_may⟩ : ∃ z : Int32, z = (own_may (0 : Int32) ch) := ⟨_, rfl⟩
    rw [← h_may]
    refine own_up (S' := T10.setTop (mkF m 49 #[.val (.int c1), .val (.int s1), .val (.int f1), .val (.int (0 : Int32)), .val (.int ch), .val (.ref ob), .val (.int may), .unset, .unset, .unset, .unset, .unset] [])) (fun t stp => XS.istore X10.here hx rfl (hb hby at_47) rfl (l' := #[.val (.int c1), .val (.int s1), .val (.int f1), .val (.int (0 : Int32)), .val (.int ch), .val (.ref ob), .val (.int may), .unset, .unset, .unset, .unset, .unset]) rfl stp) ?_
    refine own_up (S' := T10.setTop (mkF m 51 #[.val (.int c1), .val (.int s1), .val (.int f1), .val (.int (0 : Int32)), .val (.int ch), .val (.ref ob), .val (.int may), .unset, .unset, .unset, .unset, .unset] [(.int ch)])) (fun t stp => XS.iload X10.here hx rfl (hb hby at_49) rfl stp) ?_
    refine own_up (S' := T10.setTop (mkF m 53 #[.val (.int c1), .val (.int s1), .val (.int f1), .val (.int (0 : Int32)), .val (.int ch), .val (.ref ob), .val (.int may), .unset, .unset, .unset, .unset, .unset] [(.int (10 : Int32)), (.int ch)])) (fun t stp => XT.bipushV X10.here hx rfl (10 : Int32) (hb hby at_51) rfl stp) ?_
    by_cases hc53_11 : ch = (10 : Int32)
    · have ihc53_11 : ch.toInt = 10 := own_ieq hc53_11
      refine own_up (S' := T10.setTop (mkF m 83 #[.val (.int c1), .val (.int s1), .val (.int f1), .val (.int (0 : Int32)), .val (.int ch), .val (.ref ob), .val (.int may), .unset, .unset, .unset, .unset, .unset] [])) (fun t stp => XS.icmpYes X10.here hx rfl (pc0 := 53) (pc' := 83) rfl (hb hby at_53) rfl (XT.ii_eq_t hc53_11) (by decide) (by decide) stp) ?_
      refine own_up (S' := T10.setTop (mkF m 84 #[.val (.int c1), .val (.int s1), .val (.int f1), .val (.int (0 : Int32)), .val (.int ch), .val (.ref ob), .val (.int may), .unset, .unset, .unset, .unset, .unset] [(.int (1 : Int32))])) (fun t stp => XT.iconstV X10.here hx rfl (1 : Int32) (hb hby at_83) rfl stp) ?_
      refine own_up (S' := T10.setTop (mkF m 88 #[.val (.int c1), .val (.int s1), .val (.int f1), .val (.int (0 : Int32)), .val (.int ch), .val (.ref ob), .val (.int may), .unset, .unset, .unset, .unset, .unset] [(.int (1 : Int32))])) (fun t stp => XS.goto X10.here hx rfl (pc0 := 84) (pc' := 88) rfl (hb hby at_84) (by decide) (by decide) stp) ?_
      refine own_up (S' := T10.setTop (mkF m 90 #[.val (.int c1), .val (.int s1), .val (.int f1), .val (.int (0 : Int32)), .val (.int ch), .val (.ref ob), .val (.int may), .val (.int (1 : Int32)), .unset, .unset, .unset, .unset] [])) (fun t stp => XS.istore X10.here hx rfl (hb hby at_88) rfl (l' := #[.val (.int c1), .val (.int s1), .val (.int f1), .val (.int (0 : Int32)), .val (.int ch), .val (.ref ob), .val (.int may), .val (.int (1 : Int32)), .unset, .unset, .unset, .unset]) rfl stp) ?_
      refine own_up (S' := T10.setTop (mkF m 92 #[.val (.int c1), .val (.int s1), .val (.int f1), .val (.int (0 : Int32)), .val (.int ch), .val (.ref ob), .val (.int may), .val (.int (1 : Int32)), .unset, .unset, .unset, .unset] [(.ref ob)])) (fun t stp => XS.aload X10.here hx rfl (hb hby at_90) rfl rfl stp) ?_
      refine own_up (S' := T10.setTop (mkF m 94 #[.val (.int c1), .val (.int s1), .val (.int f1), .val (.int (0 : Int32)), .val (.int ch), .val (.ref ob), .val (.int may), .val (.int (1 : Int32)), .unset, .unset, .unset, .unset] [(.int ch), (.ref ob)])) (fun t stp => XS.iload X10.here hx rfl (hb hby at_92) rfl stp) ?_
      refine own_callV X10 hx hZ hown (hw _ (List.mem_of_getElem? (i := 24) rfl)) (hw _ (List.mem_of_getElem? (i := 25) rfl)) (hw _ (List.mem_of_getElem? (i := 27) rfl)) (hw _ (List.mem_of_getElem? (i := 26) rfl)) (hw _ (List.mem_of_getElem? (i := 6) rfl)) (hw _ (List.mem_of_getElem? (i := 28) rfl)) (by decide) e10 (rm5 l Z a0 hw [] ob ch (1 : Int32) (1 : Int32) (0 : Int32) (0 : Int32) T6.heap n0 Zn7 G6a_6 G6b_6 G6c_6 G6d_6 A3_8 g_ob) 0 A3_8 [(.int ch)] [] (hb hby at_94) (lenOf own_pd3 rfl) (by decide) (by decide) (by decide) (by decide) rfl (by rw [hml]; rfl) rfl (by show 2 * 0 + _ ≤ _; exact Nat.le_of_eq rfl) rfl ?_
      intro T12 L12 r12 X12 q12
      obtain ⟨rfl, M12, K12, G12a_12, G12b_12, G12c_12, G12d_12⟩ := q12
      have N12 := Fr.app N10 M12
      have Zn13 := Nat.le_trans Zn7 K12.1
      have A3_14 := A3_8.keep K12
      show own_Ends p e below s (own_Q0 Z c1 s1 f1 h0 n0) room_1.cells room_1.slots (T12.setTop (mkF m 97 #[.val (.int c1), .val (.int s1), .val (.int f1), .val (.int (0 : Int32)), .val (.int ch), .val (.ref ob), .val (.int may), .val (.int (1 : Int32)), .unset, .unset, .unset, .unset] []))
      refine own_up (S' := T12.setTop (mkF m 99 #[.val (.int c1), .val (.int s1), .val (.int f1), .val (.int (0 : Int32)), .val (.int ch), .val (.ref ob), .val (.int may), .val (.int (1 : Int32)), .unset, .unset, .unset, .unset] [(.ref ob)])) (fun t stp => XS.aload X12.here hx rfl (hb hby at_97) rfl rfl stp) ?_
      refine own_callV X12 hx hZ hown (hw _ (List.mem_of_getElem? (i := 32) rfl)) (hw _ (List.mem_of_getElem? (i := 33) rfl)) (hw _ (List.mem_of_getElem? (i := 35) rfl)) (hw _ (List.mem_of_getElem? (i := 34) rfl)) (hw _ (List.mem_of_getElem? (i := 6) rfl)) (hw _ (List.mem_of_getElem? (i := 36) rfl)) (by decide) rfl (rm3 l Z a0 hw [] ob (own_ln (1 : Int32) (0 : Int32) (0 : Int32) ch) T12.heap n0 Zn13 G12a_12) 0 A3_14 [] [] (hb hby at_99) (lenOf own_pd4 rfl) (by decide) (by decide) (by decide) (by decide) rfl (by rw [hml]; rfl) rfl (by show 2 * 0 + _ ≤ _; exact Nat.le_of_eq rfl) rfl ?_
      intro T15 L15 r15 X15 q15
      obtain ⟨rfl, M15, e15⟩ := q15
      have N15 := Fr.app N12 M15
      show own_Ends p e below s (own_Q0 Z c1 s1 f1 h0 n0) room_1.cells room_1.slots (T15.setTop (mkF m 102 #[.val (.int c1), .val (.int s1), .val (.int f1), .val (.int (0 : Int32)), .val (.int ch), .val (.ref ob), .val (.int may), .val (.int (1 : Int32)), .unset, .unset, .unset, .unset] [(.int (own_ln (1 : Int32) (0 : Int32) (0 : Int32) ch))]))
      obtain ⟨ln, h_ln⟩ : ∃ z : Int32, z = (own_ln (1 : Int32) (0 : Int32) (0 : Int32) ch) := ⟨_, rfl⟩
      rw [← h_ln]
      refine own_up (S' := T15.setTop (mkF m 104 #[.val (.int c1), .val (.int s1), .val (.int f1), .val (.int (0 : Int32)), .val (.int ch), .val (.ref ob), .val (.int may), .val (.int (1 : Int32)), .val (.int ln), .unset, .unset, .unset] [])) (fun t stp => XS.istore X15.here hx rfl (hb hby at_102) rfl (l' := #[.val (.int c1), .val (.int s1), .val (.int f1), .val (.int (0 : Int32)), .val (.int ch), .val (.ref ob), .val (.int may), .val (.int (1 : Int32)), .val (.int ln), .unset, .unset, .unset]) rfl stp) ?_
      have k_ln : ln = (2 : Int32) := by rw [h_ln]; simp [own_ln, own_fd, own_sk, own_en, hc3_1, hc32_9, hc53_11]
      clear h_ln
      subst k_ln
      refine own_up (S' := T15.setTop (mkF m 106 #[.val (.int c1), .val (.int s1), .val (.int f1), .val (.int (0 : Int32)), .val (.int ch), .val (.ref ob), .val (.int may), .val (.int (1 : Int32)), .val (.int (2 : Int32)), .unset, .unset, .unset] [(.ref ob)])) (fun t stp => XS.aload X15.here hx rfl (hb hby at_104) rfl rfl stp) ?_
      refine own_callV X15 hx hZ hown (hw _ (List.mem_of_getElem? (i := 37) rfl)) (hw _ (List.mem_of_getElem? (i := 38) rfl)) (hw _ (List.mem_of_getElem? (i := 40) rfl)) (hw _ (List.mem_of_getElem? (i := 39) rfl)) (hw _ (List.mem_of_getElem? (i := 6) rfl)) (hw _ (List.mem_of_getElem? (i := 41) rfl)) (by decide) e15 (rm4 l Z a0 hw [] ob (own_cl (1 : Int32) (0 : Int32) (0 : Int32) ch) T12.heap n0 Zn13 G12b_12) 0 A3_14 [] [] (hb hby at_106) (lenOf own_pd4 rfl) (by decide) (by decide) (by decide) (by decide) rfl (by rw [hml]; rfl) rfl (by show 2 * 0 + _ ≤ _; exact Nat.le_of_eq rfl) rfl ?_
      intro T16 L16 r16 X16 q16
      obtain ⟨rfl, M16, e16⟩ := q16
      have N16 := Fr.app N15 M16
      show own_Ends p e below s (own_Q0 Z c1 s1 f1 h0 n0) room_1.cells room_1.slots (T16.setTop (mkF m 109 #[.val (.int c1), .val (.int s1), .val (.int f1), .val (.int (0 : Int32)), .val (.int ch), .val (.ref ob), .val (.int may), .val (.int (1 : Int32)), .val (.int (2 : Int32)), .unset, .unset, .unset] [(.int (own_cl (1 : Int32) (0 : Int32) (0 : Int32) ch))]))
      obtain ⟨cl, h_cl⟩ : ∃ z : Int32, z = (own_cl (1 : Int32) (0 : Int32) (0 : Int32) ch) := ⟨_, rfl⟩
      rw [← h_cl]
      refine own_up (S' := T16.setTop (mkF m 111 #[.val (.int c1), .val (.int s1), .val (.int f1), .val (.int (0 : Int32)), .val (.int ch), .val (.ref ob), .val (.int may), .val (.int (1 : Int32)), .val (.int (2 : Int32)), .val (.int cl), .unset, .unset] [])) (fun t stp => XS.istore X16.here hx rfl (hb hby at_109) rfl (l' := #[.val (.int c1), .val (.int s1), .val (.int f1), .val (.int (0 : Int32)), .val (.int ch), .val (.ref ob), .val (.int may), .val (.int (1 : Int32)), .val (.int (2 : Int32)), .val (.int cl), .unset, .unset]) rfl stp) ?_
      have k_cl : cl = (1 : Int32) := by rw [h_cl]; simp [own_cl, own_fd, own_sk, own_en, hc3_1, hc32_9, hc53_11]
      clear h_cl
      subst k_cl
      refine own_up (S' := T16.setTop (mkF m 113 #[.val (.int c1), .val (.int s1), .val (.int f1), .val (.int (0 : Int32)), .val (.int ch), .val (.ref ob), .val (.int may), .val (.int (1 : Int32)), .val (.int (2 : Int32)), .val (.int (1 : Int32)), .unset, .unset] [(.int (2 : Int32))])) (fun t stp => XS.iload X16.here hx rfl (hb hby at_111) rfl stp) ?_
      refine own_up (S' := T16.setTop (mkF m 114 #[.val (.int c1), .val (.int s1), .val (.int f1), .val (.int (0 : Int32)), .val (.int ch), .val (.ref ob), .val (.int may), .val (.int (1 : Int32)), .val (.int (2 : Int32)), .val (.int (1 : Int32)), .unset, .unset] [(.int (2 : Int32)), (.int (2 : Int32))])) (fun t stp => XT.iconstV X16.here hx rfl (2 : Int32) (hb hby at_113) rfl stp) ?_
      have hc114_17 : (2 : Int32) = (2 : Int32) := rfl
      refine own_up (S' := T16.setTop (mkF m 117 #[.val (.int c1), .val (.int s1), .val (.int f1), .val (.int (0 : Int32)), .val (.int ch), .val (.ref ob), .val (.int may), .val (.int (1 : Int32)), .val (.int (2 : Int32)), .val (.int (1 : Int32)), .unset, .unset] [])) (fun t stp => XS.icmpNo X16.here hx rfl (hb hby at_114) rfl (XT.ii_ne_f hc114_17) stp) ?_
      refine own_up (S' := T16.setTop (mkF m 119 #[.val (.int c1), .val (.int s1), .val (.int f1), .val (.int (0 : Int32)), .val (.int ch), .val (.ref ob), .val (.int may), .val (.int (1 : Int32)), .val (.int (2 : Int32)), .val (.int (1 : Int32)), .unset, .unset] [(.int (1 : Int32))])) (fun t stp => XS.iload X16.here hx rfl (hb hby at_117) rfl stp) ?_
      refine own_up (S' := T16.setTop (mkF m 120 #[.val (.int c1), .val (.int s1), .val (.int f1), .val (.int (0 : Int32)), .val (.int ch), .val (.ref ob), .val (.int may), .val (.int (1 : Int32)), .val (.int (2 : Int32)), .val (.int (1 : Int32)), .unset, .unset] [(.int (1 : Int32)), (.int (1 : Int32))])) (fun t stp => XT.iconstV X16.here hx rfl (1 : Int32) (hb hby at_119) rfl stp) ?_
      have hc120_18 : (1 : Int32) = (1 : Int32) := rfl
      refine own_up (S' := T16.setTop (mkF m 123 #[.val (.int c1), .val (.int s1), .val (.int f1), .val (.int (0 : Int32)), .val (.int ch), .val (.ref ob), .val (.int may), .val (.int (1 : Int32)), .val (.int (2 : Int32)), .val (.int (1 : Int32)), .unset, .unset] [])) (fun t stp => XS.icmpNo X16.here hx rfl (hb hby at_120) rfl (XT.ii_ne_f hc120_18) stp) ?_
      refine own_up (S' := T16.setTop (mkF m 124 #[.val (.int c1), .val (.int s1), .val (.int f1), .val (.int (0 : Int32)), .val (.int ch), .val (.ref ob), .val (.int may), .val (.int (1 : Int32)), .val (.int (2 : Int32)), .val (.int (1 : Int32)), .unset, .unset] [(.int (1 : Int32))])) (fun t stp => XT.iconstV X16.here hx rfl (1 : Int32) (hb hby at_123) rfl stp) ?_
      refine own_up (S' := T16.setTop (mkF m 128 #[.val (.int c1), .val (.int s1), .val (.int f1), .val (.int (0 : Int32)), .val (.int ch), .val (.ref ob), .val (.int may), .val (.int (1 : Int32)), .val (.int (2 : Int32)), .val (.int (1 : Int32)), .unset, .unset] [(.int (1 : Int32))])) (fun t stp => XS.goto X16.here hx rfl (pc0 := 124) (pc' := 128) rfl (hb hby at_124) (by decide) (by decide) stp) ?_
      refine own_up (S' := T16.setTop (mkF m 130 #[.val (.int c1), .val (.int s1), .val (.int f1), .val (.int (0 : Int32)), .val (.int ch), .val (.ref ob), .val (.int may), .val (.int (1 : Int32)), .val (.int (2 : Int32)), .val (.int (1 : Int32)), .val (.int (1 : Int32)), .unset] [])) (fun t stp => XS.istore X16.here hx rfl (hb hby at_128) rfl (l' := #[.val (.int c1), .val (.int s1), .val (.int f1), .val (.int (0 : Int32)), .val (.int ch), .val (.ref ob), .val (.int may), .val (.int (1 : Int32)), .val (.int (2 : Int32)), .val (.int (1 : Int32)), .val (.int (1 : Int32)), .unset]) rfl stp) ?_
      refine own_up (S' := T16.setTop (mkF m 132 #[.val (.int c1), .val (.int s1), .val (.int f1), .val (.int (0 : Int32)), .val (.int ch), .val (.ref ob), .val (.int may), .val (.int (1 : Int32)), .val (.int (2 : Int32)), .val (.int (1 : Int32)), .val (.int (1 : Int32)), .unset] [(.int (2 : Int32))])) (fun t stp => XS.iload X16.here hx rfl (hb hby at_130) rfl stp) ?_
      refine own_up (S' := T16.setTop (mkF m 133 #[.val (.int c1), .val (.int s1), .val (.int f1), .val (.int (0 : Int32)), .val (.int ch), .val (.ref ob), .val (.int may), .val (.int (1 : Int32)), .val (.int (2 : Int32)), .val (.int (1 : Int32)), .val (.int (1 : Int32)), .unset] [(.int (1 : Int32)), (.int (2 : Int32))])) (fun t stp => XT.iconstV X16.here hx rfl (1 : Int32) (hb hby at_132) rfl stp) ?_
      have hc133_19 : ¬ ((2 : Int32) = (1 : Int32)) := by decide
      refine own_up (S' := T16.setTop (mkF m 146 #[.val (.int c1), .val (.int s1), .val (.int f1), .val (.int (0 : Int32)), .val (.int ch), .val (.ref ob), .val (.int may), .val (.int (1 : Int32)), .val (.int (2 : Int32)), .val (.int (1 : Int32)), .val (.int (1 : Int32)), .unset] [])) (fun t stp => XS.icmpYes X16.here hx rfl (pc0 := 133) (pc' := 146) rfl (hb hby at_133) rfl (XT.ii_ne_t hc133_19) (by decide) (by decide) stp) ?_
      refine own_up (S' := T16.setTop (mkF m 147 #[.val (.int c1), .val (.int s1), .val (.int f1), .val (.int (0 : Int32)), .val (.int ch), .val (.ref ob), .val (.int may), .val (.int (1 : Int32)), .val (.int (2 : Int32)), .val (.int (1 : Int32)), .val (.int (1 : Int32)), .unset] [(.int (0 : Int32))])) (fun t stp => XT.iconstV X16.here hx rfl (0 : Int32) (hb hby at_146) rfl stp) ?_
      refine own_up (S' := T16.setTop (mkF m 149 #[.val (.int c1), .val (.int s1), .val (.int f1), .val (.int (0 : Int32)), .val (.int ch), .val (.ref ob), .val (.int may), .val (.int (1 : Int32)), .val (.int (2 : Int32)), .val (.int (1 : Int32)), .val (.int (1 : Int32)), .val (.int (0 : Int32))] [])) (fun t stp => XS.istore X16.here hx rfl (hb hby at_147) rfl (l' := #[.val (.int c1), .val (.int s1), .val (.int f1), .val (.int (0 : Int32)), .val (.int ch), .val (.ref ob), .val (.int may), .val (.int (1 : Int32)), .val (.int (2 : Int32)), .val (.int (1 : Int32)), .val (.int (1 : Int32)), .val (.int (0 : Int32))]) rfl stp) ?_
      refine own_up (S' := T16.setTop (mkF m 151 #[.val (.int c1), .val (.int s1), .val (.int f1), .val (.int (0 : Int32)), .val (.int ch), .val (.ref ob), .val (.int may), .val (.int (1 : Int32)), .val (.int (2 : Int32)), .val (.int (1 : Int32)), .val (.int (1 : Int32)), .val (.int (0 : Int32))] [(.int may)])) (fun t stp => XS.iload X16.here hx rfl (hb hby at_149) rfl stp) ?_
      refine own_up (S' := T16.setTop (mkF m 153 #[.val (.int c1), .val (.int s1), .val (.int f1), .val (.int (0 : Int32)), .val (.int ch), .val (.ref ob), .val (.int may), .val (.int (1 : Int32)), .val (.int (2 : Int32)), .val (.int (1 : Int32)), .val (.int (1 : Int32)), .val (.int (0 : Int32))] [(.int (1 : Int32)), (.int may)])) (fun t stp => XS.iload X16.here hx rfl (hb hby at_151) rfl stp) ?_
      have hc153_20 : may = (1 : Int32) := by rw [h_may]; exact (own_may_1 (by omega)).symm
      have ihc153_20 : may.toInt = 1 := own_ieq hc153_20
      refine own_up (S' := T16.setTop (mkF m 156 #[.val (.int c1), .val (.int s1), .val (.int f1), .val (.int (0 : Int32)), .val (.int ch), .val (.ref ob), .val (.int may), .val (.int (1 : Int32)), .val (.int (2 : Int32)), .val (.int (1 : Int32)), .val (.int (1 : Int32)), .val (.int (0 : Int32))] [])) (fun t stp => XS.icmpNo X16.here hx rfl (hb hby at_153) rfl (XT.ii_ne_f hc153_20) stp) ?_
      refine own_up (S' := T16.setTop (mkF m 158 #[.val (.int c1), .val (.int s1), .val (.int f1), .val (.int (0 : Int32)), .val (.int ch), .val (.ref ob), .val (.int may), .val (.int (1 : Int32)), .val (.int (2 : Int32)), .val (.int (1 : Int32)), .val (.int (1 : Int32)), .val (.int (0 : Int32))] [(.int may)])) (fun t stp => XS.iload X16.here hx rfl (hb hby at_156) rfl stp) ?_
      have hc158_21 : ¬ (may = 0) := by rw [hc153_20]; decide
      have ihc158_21 : may.toInt ≠ 0 := own_ine hc158_21
      refine own_up (S' := T16.setTop (mkF m 161 #[.val (.int c1), .val (.int s1), .val (.int f1), .val (.int (0 : Int32)), .val (.int ch), .val (.ref ob), .val (.int may), .val (.int (1 : Int32)), .val (.int (2 : Int32)), .val (.int (1 : Int32)), .val (.int (1 : Int32)), .val (.int (0 : Int32))] [])) (fun t stp => XS.ifNo X16.here hx rfl (hb hby at_158) rfl (XT.i0_eq_f hc158_21) stp) ?_
      refine own_up (S' := T16.setTop (mkF m 163 #[.val (.int c1), .val (.int s1), .val (.int f1), .val (.int (0 : Int32)), .val (.int ch), .val (.ref ob), .val (.int may), .val (.int (1 : Int32)), .val (.int (2 : Int32)), .val (.int (1 : Int32)), .val (.int (1 : Int32)), .val (.int (0 : Int32))] [(.int (1 : Int32))])) (fun t stp => XS.iload X16.here hx rfl (hb hby at_161) rfl stp) ?_
      have hc163_22 : ¬ ((1 : Int32) = 0) := by decide
      refine own_up (S' := T16.setTop (mkF m 166 #[.val (.int c1), .val (.int s1), .val (.int f1), .val (.int (0 : Int32)), .val (.int ch), .val (.ref ob), .val (.int may), .val (.int (1 : Int32)), .val (.int (2 : Int32)), .val (.int (1 : Int32)), .val (.int (1 : Int32)), .val (.int (0 : Int32))] [])) (fun t stp => XS.ifNo X16.here hx rfl (hb hby at_163) rfl (XT.i0_eq_f hc163_22) stp) ?_
      refine own_up (S' := T16.setTop (mkF m 174 #[.val (.int c1), .val (.int s1), .val (.int f1), .val (.int (0 : Int32)), .val (.int ch), .val (.ref ob), .val (.int may), .val (.int (1 : Int32)), .val (.int (2 : Int32)), .val (.int (1 : Int32)), .val (.int (1 : Int32)), .val (.int (0 : Int32))] [])) (fun t stp => XS.goto X16.here hx rfl (pc0 := 166) (pc' := 174) rfl (hb hby at_166) (by decide) (by decide) stp) ?_
      refine own_up (S' := T16.setTop (mkF m 175 #[.val (.int c1), .val (.int s1), .val (.int f1), .val (.int (0 : Int32)), .val (.int ch), .val (.ref ob), .val (.int may), .val (.int (1 : Int32)), .val (.int (2 : Int32)), .val (.int (1 : Int32)), .val (.int (1 : Int32)), .val (.int (0 : Int32))] [(.int (1 : Int32))])) (fun t stp => XT.iconstV X16.here hx rfl (1 : Int32) (hb hby at_174) rfl stp) ?_
      refine own_up (S' := T16.setTop (mkF m 179 #[.val (.int c1), .val (.int s1), .val (.int f1), .val (.int (0 : Int32)), .val (.int ch), .val (.ref ob), .val (.int may), .val (.int (1 : Int32)), .val (.int (2 : Int32)), .val (.int (1 : Int32)), .val (.int (1 : Int32)), .val (.int (0 : Int32))] [(.int (1 : Int32))])) (fun t stp => XS.goto X16.here hx rfl (pc0 := 175) (pc' := 179) rfl (hb hby at_175) (by decide) (by decide) stp) ?_
      refine own_retN X16 hx hlk (t := .boolean) hret (by simp) (z' := (1 : Int32)) rfl (hb hby at_179) (by decide) (by decide) ?_
      show own_Q0 Z c1 s1 f1 h0 n0 _ T16.heap _
      rw [e16]
      exact ⟨rfl, N16⟩
    · have ihc53_11 : ch.toInt ≠ 10 := own_ine hc53_11
      refine own_up (S' := T10.setTop (mkF m 56 #[.val (.int c1), .val (.int s1), .val (.int f1), .val (.int (0 : Int32)), .val (.int ch), .val (.ref ob), .val (.int may), .unset, .unset, .unset, .unset, .unset] [])) (fun t stp => XS.icmpNo X10.here hx rfl (hb hby at_53) rfl (XT.ii_eq_f hc53_11) stp) ?_
      refine own_up (S' := T10.setTop (mkF m 58 #[.val (.int c1), .val (.int s1), .val (.int f1), .val (.int (0 : Int32)), .val (.int ch), .val (.ref ob), .val (.int may), .unset, .unset, .unset, .unset, .unset] [(.int ch)])) (fun t stp => XS.iload X10.here hx rfl (hb hby at_56) rfl stp) ?_
      refine own_up (S' := T10.setTop (mkF m 60 #[.val (.int c1), .val (.int s1), .val (.int f1), .val (.int (0 : Int32)), .val (.int ch), .val (.ref ob), .val (.int may), .unset, .unset, .unset, .unset, .unset] [(.int (13 : Int32)), (.int ch)])) (fun t stp => XT.bipushV X10.here hx rfl (13 : Int32) (hb hby at_58) rfl stp) ?_
      by_cases hc60_23 : ch = (13 : Int32)
      · have ihc60_23 : ch.toInt = 13 := own_ieq hc60_23
        refine own_up (S' := T10.setTop (mkF m 83 #[.val (.int c1), .val (.int s1), .val (.int f1), .val (.int (0 : Int32)), .val (.int ch), .val (.ref ob), .val (.int may), .unset, .unset, .unset, .unset, .unset] [])) (fun t stp => XS.icmpYes X10.here hx rfl (pc0 := 60) (pc' := 83) rfl (hb hby at_60) rfl (XT.ii_eq_t hc60_23) (by decide) (by decide) stp) ?_
        refine own_up (S' := T10.setTop (mkF m 84 #[.val (.int c1), .val (.int s1), .val (.int f1), .val (.int (0 : Int32)), .val (.int ch), .val (.ref ob), .val (.int may), .unset, .unset, .unset, .unset, .unset] [(.int (1 : Int32))])) (fun t stp => XT.iconstV X10.here hx rfl (1 : Int32) (hb hby at_83) rfl stp) ?_
        refine own_up (S' := T10.setTop (mkF m 88 #[.val (.int c1), .val (.int s1), .val (.int f1), .val (.int (0 : Int32)), .val (.int ch), .val (.ref ob), .val (.int may), .unset, .unset, .unset, .unset, .unset] [(.int (1 : Int32))])) (fun t stp => XS.goto X10.here hx rfl (pc0 := 84) (pc' := 88) rfl (hb hby at_84) (by decide) (by decide) stp) ?_
        refine own_up (S' := T10.setTop (mkF m 90 #[.val (.int c1), .val (.int s1), .val (.int f1), .val (.int (0 : Int32)), .val (.int ch), .val (.ref ob), .val (.int may), .val (.int (1 : Int32)), .unset, .unset, .unset, .unset] [])) (fun t stp => XS.istore X10.here hx rfl (hb hby at_88) rfl (l' := #[.val (.int c1), .val (.int s1), .val (.int f1), .val (.int (0 : Int32)), .val (.int ch), .val (.ref ob), .val (.int may), .val (.int (1 : Int32)), .unset, .unset, .unset, .unset]) rfl stp) ?_
        refine own_up (S' := T10.setTop (mkF m 92 #[.val (.int c1), .val (.int s1), .val (.int f1), .val (.int (0 : Int32)), .val (.int ch), .val (.ref ob), .val (.int may), .val (.int (1 : Int32)), .unset, .unset, .unset, .unset] [(.ref ob)])) (fun t stp => XS.aload X10.here hx rfl (hb hby at_90) rfl rfl stp) ?_
        refine own_up (S' := T10.setTop (mkF m 94 #[.val (.int c1), .val (.int s1), .val (.int f1), .val (.int (0 : Int32)), .val (.int ch), .val (.ref ob), .val (.int may), .val (.int (1 : Int32)), .unset, .unset, .unset, .unset] [(.int ch), (.ref ob)])) (fun t stp => XS.iload X10.here hx rfl (hb hby at_92) rfl stp) ?_
        refine own_callV X10 hx hZ hown (hw _ (List.mem_of_getElem? (i := 24) rfl)) (hw _ (List.mem_of_getElem? (i := 25) rfl)) (hw _ (List.mem_of_getElem? (i := 27) rfl)) (hw _ (List.mem_of_getElem? (i := 26) rfl)) (hw _ (List.mem_of_getElem? (i := 6) rfl)) (hw _ (List.mem_of_getElem? (i := 28) rfl)) (by decide) e10 (rm5 l Z a0 hw [] ob ch (1 : Int32) (1 : Int32) (0 : Int32) (0 : Int32) T6.heap n0 Zn7 G6a_6 G6b_6 G6c_6 G6d_6 A3_8 g_ob) 0 A3_8 [(.int ch)] [] (hb hby at_94) (lenOf own_pd3 rfl) (by decide) (by decide) (by decide) (by decide) rfl (by rw [hml]; rfl) rfl (by show 2 * 0 + _ ≤ _; exact Nat.le_of_eq rfl) rfl ?_
        intro T24 L24 r24 X24 q24
        obtain ⟨rfl, M24, K24, G24a_24, G24b_24, G24c_24, G24d_24⟩ := q24
        have N24 := Fr.app N10 M24
        have Zn25 := Nat.le_trans Zn7 K24.1
        have A3_26 := A3_8.keep K24
        show own_Ends p e below s (own_Q0 Z c1 s1 f1 h0 n0) room_1.cells room_1.slots (T24.setTop (mkF m 97 #[.val (.int c1), .val (.int s1), .val (.int f1), .val (.int (0 : Int32)), .val (.int ch), .val (.ref ob), .val (.int may), .val (.int (1 : Int32)), .unset, .unset, .unset, .unset] []))
        refine own_up (S' := T24.setTop (mkF m 99 #[.val (.int c1), .val (.int s1), .val (.int f1), .val (.int (0 : Int32)), .val (.int ch), .val (.ref ob), .val (.int may), .val (.int (1 : Int32)), .unset, .unset, .unset, .unset] [(.ref ob)])) (fun t stp => XS.aload X24.here hx rfl (hb hby at_97) rfl rfl stp) ?_
        refine own_callV X24 hx hZ hown (hw _ (List.mem_of_getElem? (i := 32) rfl)) (hw _ (List.mem_of_getElem? (i := 33) rfl)) (hw _ (List.mem_of_getElem? (i := 35) rfl)) (hw _ (List.mem_of_getElem? (i := 34) rfl)) (hw _ (List.mem_of_getElem? (i := 6) rfl)) (hw _ (List.mem_of_getElem? (i := 36) rfl)) (by decide) rfl (rm3 l Z a0 hw [] ob (own_ln (1 : Int32) (0 : Int32) (0 : Int32) ch) T24.heap n0 Zn25 G24a_24) 0 A3_26 [] [] (hb hby at_99) (lenOf own_pd4 rfl) (by decide) (by decide) (by decide) (by decide) rfl (by rw [hml]; rfl) rfl (by show 2 * 0 + _ ≤ _; exact Nat.le_of_eq rfl) rfl ?_
        intro T27 L27 r27 X27 q27
        obtain ⟨rfl, M27, e27⟩ := q27
        have N27 := Fr.app N24 M27
        show own_Ends p e below s (own_Q0 Z c1 s1 f1 h0 n0) room_1.cells room_1.slots (T27.setTop (mkF m 102 #[.val (.int c1), .val (.int s1), .val (.int f1), .val (.int (0 : Int32)), .val (.int ch), .val (.ref ob), .val (.int may), .val (.int (1 : Int32)), .unset, .unset, .unset, .unset] [(.int (own_ln (1 : Int32) (0 : Int32) (0 : Int32) ch))]))
        obtain ⟨ln, h_ln⟩ : ∃ z : Int32, z = (own_ln (1 : Int32) (0 : Int32) (0 : Int32) ch) := ⟨_, rfl⟩
        rw [← h_ln]
        refine own_up (S' := T27.setTop (mkF m 104 #[.val (.int c1), .val (.int s1), .val (.int f1), .val (.int (0 : Int32)), .val (.int ch), .val (.ref ob), .val (.int may), .val (.int (1 : Int32)), .val (.int ln), .unset, .unset, .unset] [])) (fun t stp => XS.istore X27.here hx rfl (hb hby at_102) rfl (l' := #[.val (.int c1), .val (.int s1), .val (.int f1), .val (.int (0 : Int32)), .val (.int ch), .val (.ref ob), .val (.int may), .val (.int (1 : Int32)), .val (.int ln), .unset, .unset, .unset]) rfl stp) ?_
        have k_ln : ln = (2 : Int32) := by rw [h_ln]; simp [own_ln, own_fd, own_sk, own_en, hc3_1, hc32_9, hc53_11, hc60_23]
        clear h_ln
        subst k_ln
        refine own_up (S' := T27.setTop (mkF m 106 #[.val (.int c1), .val (.int s1), .val (.int f1), .val (.int (0 : Int32)), .val (.int ch), .val (.ref ob), .val (.int may), .val (.int (1 : Int32)), .val (.int (2 : Int32)), .unset, .unset, .unset] [(.ref ob)])) (fun t stp => XS.aload X27.here hx rfl (hb hby at_104) rfl rfl stp) ?_
        refine own_callV X27 hx hZ hown (hw _ (List.mem_of_getElem? (i := 37) rfl)) (hw _ (List.mem_of_getElem? (i := 38) rfl)) (hw _ (List.mem_of_getElem? (i := 40) rfl)) (hw _ (List.mem_of_getElem? (i := 39) rfl)) (hw _ (List.mem_of_getElem? (i := 6) rfl)) (hw _ (List.mem_of_getElem? (i := 41) rfl)) (by decide) e27 (rm4 l Z a0 hw [] ob (own_cl (1 : Int32) (0 : Int32) (0 : Int32) ch) T24.heap n0 Zn25 G24b_24) 0 A3_26 [] [] (hb hby at_106) (lenOf own_pd4 rfl) (by decide) (by decide) (by decide) (by decide) rfl (by rw [hml]; rfl) rfl (by show 2 * 0 + _ ≤ _; exact Nat.le_of_eq rfl) rfl ?_
        intro T28 L28 r28 X28 q28
        obtain ⟨rfl, M28, e28⟩ := q28
        have N28 := Fr.app N27 M28
        show own_Ends p e below s (own_Q0 Z c1 s1 f1 h0 n0) room_1.cells room_1.slots (T28.setTop (mkF m 109 #[.val (.int c1), .val (.int s1), .val (.int f1), .val (.int (0 : Int32)), .val (.int ch), .val (.ref ob), .val (.int may), .val (.int (1 : Int32)), .val (.int (2 : Int32)), .unset, .unset, .unset] [(.int (own_cl (1 : Int32) (0 : Int32) (0 : Int32) ch))]))
        obtain ⟨cl, h_cl⟩ : ∃ z : Int32, z = (own_cl (1 : Int32) (0 : Int32) (0 : Int32) ch) := ⟨_, rfl⟩
        rw [← h_cl]
        refine own_up (S' := T28.setTop (mkF m 111 #[.val (.int c1), .val (.int s1), .val (.int f1), .val (.int (0 : Int32)), .val (.int ch), .val (.ref ob), .val (.int may), .val (.int (1 : Int32)), .val (.int (2 : Int32)), .val (.int cl), .unset, .unset] [])) (fun t stp => XS.istore X28.here hx rfl (hb hby at_109) rfl (l' := #[.val (.int c1), .val (.int s1), .val (.int f1), .val (.int (0 : Int32)), .val (.int ch), .val (.ref ob), .val (.int may), .val (.int (1 : Int32)), .val (.int (2 : Int32)), .val (.int cl), .unset, .unset]) rfl stp) ?_
        have k_cl : cl = (1 : Int32) := by rw [h_cl]; simp [own_cl, own_fd, own_sk, own_en, hc3_1, hc32_9, hc53_11, hc60_23]
        clear h_cl
        subst k_cl
        refine own_up (S' := T28.setTop (mkF m 113 #[.val (.int c1), .val (.int s1), .val (.int f1), .val (.int (0 : Int32)), .val (.int ch), .val (.ref ob), .val (.int may), .val (.int (1 : Int32)), .val (.int (2 : Int32)), .val (.int (1 : Int32)), .unset, .unset] [(.int (2 : Int32))])) (fun t stp => XS.iload X28.here hx rfl (hb hby at_111) rfl stp) ?_
        refine own_up (S' := T28.setTop (mkF m 114 #[.val (.int c1), .val (.int s1), .val (.int f1), .val (.int (0 : Int32)), .val (.int ch), .val (.ref ob), .val (.int may), .val (.int (1 : Int32)), .val (.int (2 : Int32)), .val (.int (1 : Int32)), .unset, .unset] [(.int (2 : Int32)), (.int (2 : Int32))])) (fun t stp => XT.iconstV X28.here hx rfl (2 : Int32) (hb hby at_113) rfl stp) ?_
        have hc114_29 : (2 : Int32) = (2 : Int32) := rfl
        refine own_up (S' := T28.setTop (mkF m 117 #[.val (.int c1), .val (.int s1), .val (.int f1), .val (.int (0 : Int32)), .val (.int ch), .val (.ref ob), .val (.int may), .val (.int (1 : Int32)), .val (.int (2 : Int32)), .val (.int (1 : Int32)), .unset, .unset] [])) (fun t stp => XS.icmpNo X28.here hx rfl (hb hby at_114) rfl (XT.ii_ne_f hc114_29) stp) ?_
        refine own_up (S' := T28.setTop (mkF m 119 #[.val (.int c1), .val (.int s1), .val (.int f1), .val (.int (0 : Int32)), .val (.int ch), .val (.ref ob), .val (.int may), .val (.int (1 : Int32)), .val (.int (2 : Int32)), .val (.int (1 : Int32)), .unset, .unset] [(.int (1 : Int32))])) (fun t stp => XS.iload X28.here hx rfl (hb hby at_117) rfl stp) ?_
        refine own_up (S' := T28.setTop (mkF m 120 #[.val (.int c1), .val (.int s1), .val (.int f1), .val (.int (0 : Int32)), .val (.int ch), .val (.ref ob), .val (.int may), .val (.int (1 : Int32)), .val (.int (2 : Int32)), .val (.int (1 : Int32)), .unset, .unset] [(.int (1 : Int32)), (.int (1 : Int32))])) (fun t stp => XT.iconstV X28.here hx rfl (1 : Int32) (hb hby at_119) rfl stp) ?_
        have hc120_30 : (1 : Int32) = (1 : Int32) := rfl
        refine own_up (S' := T28.setTop (mkF m 123 #[.val (.int c1), .val (.int s1), .val (.int f1), .val (.int (0 : Int32)), .val (.int ch), .val (.ref ob), .val (.int may), .val (.int (1 : Int32)), .val (.int (2 : Int32)), .val (.int (1 : Int32)), .unset, .unset] [])) (fun t stp => XS.icmpNo X28.here hx rfl (hb hby at_120) rfl (XT.ii_ne_f hc120_30) stp) ?_
        refine own_up (S' := T28.setTop (mkF m 124 #[.val (.int c1), .val (.int s1), .val (.int f1), .val (.int (0 : Int32)), .val (.int ch), .val (.ref ob), .val (.int may), .val (.int (1 : Int32)), .val (.int (2 : Int32)), .val (.int (1 : Int32)), .unset, .unset] [(.int (1 : Int32))])) (fun t stp => XT.iconstV X28.here hx rfl (1 : Int32) (hb hby at_123) rfl stp) ?_
        refine own_up (S' := T28.setTop (mkF m 128 #[.val (.int c1), .val (.int s1), .val (.int f1), .val (.int (0 : Int32)), .val (.int ch), .val (.ref ob), .val (.int may), .val (.int (1 : Int32)), .val (.int (2 : Int32)), .val (.int (1 : Int32)), .unset, .unset] [(.int (1 : Int32))])) (fun t stp => XS.goto X28.here hx rfl (pc0 := 124) (pc' := 128) rfl (hb hby at_124) (by decide) (by decide) stp) ?_
        refine own_up (S' := T28.setTop (mkF m 130 #[.val (.int c1), .val (.int s1), .val (.int f1), .val (.int (0 : Int32)), .val (.int ch), .val (.ref ob), .val (.int may), .val (.int (1 : Int32)), .val (.int (2 : Int32)), .val (.int (1 : Int32)), .val (.int (1 : Int32)), .unset] [])) (fun t stp => XS.istore X28.here hx rfl (hb hby at_128) rfl (l' := #[.val (.int c1), .val (.int s1), .val (.int f1), .val (.int (0 : Int32)), .val (.int ch), .val (.ref ob), .val (.int may), .val (.int (1 : Int32)), .val (.int (2 : Int32)), .val (.int (1 : Int32)), .val (.int (1 : Int32)), .unset]) rfl stp) ?_
        refine own_up (S' := T28.setTop (mkF m 132 #[.val (.int c1), .val (.int s1), .val (.int f1), .val (.int (0 : Int32)), .val (.int ch), .val (.ref ob), .val (.int may), .val (.int (1 : Int32)), .val (.int (2 : Int32)), .val (.int (1 : Int32)), .val (.int (1 : Int32)), .unset] [(.int (2 : Int32))])) (fun t stp => XS.iload X28.here hx rfl (hb hby at_130) rfl stp) ?_
        refine own_up (S' := T28.setTop (mkF m 133 #[.val (.int c1), .val (.int s1), .val (.int f1), .val (.int (0 : Int32)), .val (.int ch), .val (.ref ob), .val (.int may), .val (.int (1 : Int32)), .val (.int (2 : Int32)), .val (.int (1 : Int32)), .val (.int (1 : Int32)), .unset] [(.int (1 : Int32)), (.int (2 : Int32))])) (fun t stp => XT.iconstV X28.here hx rfl (1 : Int32) (hb hby at_132) rfl stp) ?_
        have hc133_31 : ¬ ((2 : Int32) = (1 : Int32)) := by decide
        refine own_up (S' := T28.setTop (mkF m 146 #[.val (.int c1), .val (.int s1), .val (.int f1), .val (.int (0 : Int32)), .val (.int ch), .val (.ref ob), .val (.int may), .val (.int (1 : Int32)), .val (.int (2 : Int32)), .val (.int (1 : Int32)), .val (.int (1 : Int32)), .unset] [])) (fun t stp => XS.icmpYes X28.here hx rfl (pc0 := 133) (pc' := 146) rfl (hb hby at_133) rfl (XT.ii_ne_t hc133_31) (by decide) (by decide) stp) ?_
        refine own_up (S' := T28.setTop (mkF m 147 #[.val (.int c1), .val (.int s1), .val (.int f1), .val (.int (0 : Int32)), .val (.int ch), .val (.ref ob), .val (.int may), .val (.int (1 : Int32)), .val (.int (2 : Int32)), .val (.int (1 : Int32)), .val (.int (1 : Int32)), .unset] [(.int (0 : Int32))])) (fun t stp => XT.iconstV X28.here hx rfl (0 : Int32) (hb hby at_146) rfl stp) ?_
        refine own_up (S' := T28.setTop (mkF m 149 #[.val (.int c1), .val (.int s1), .val (.int f1), .val (.int (0 : Int32)), .val (.int ch), .val (.ref ob), .val (.int may), .val (.int (1 : Int32)), .val (.int (2 : Int32)), .val (.int (1 : Int32)), .val (.int (1 : Int32)), .val (.int (0 : Int32))] [])) (fun t stp => XS.istore X28.here hx rfl (hb hby at_147) rfl (l' := #[.val (.int c1), .val (.int s1), .val (.int f1), .val (.int (0 : Int32)), .val (.int ch), .val (.ref ob), .val (.int may), .val (.int (1 : Int32)), .val (.int (2 : Int32)), .val (.int (1 : Int32)), .val (.int (1 : Int32)), .val (.int (0 : Int32))]) rfl stp) ?_
        refine own_up (S' := T28.setTop (mkF m 151 #[.val (.int c1), .val (.int s1), .val (.int f1), .val (.int (0 : Int32)), .val (.int ch), .val (.ref ob), .val (.int may), .val (.int (1 : Int32)), .val (.int (2 : Int32)), .val (.int (1 : Int32)), .val (.int (1 : Int32)), .val (.int (0 : Int32))] [(.int may)])) (fun t stp => XS.iload X28.here hx rfl (hb hby at_149) rfl stp) ?_
        refine own_up (S' := T28.setTop (mkF m 153 #[.val (.int c1), .val (.int s1), .val (.int f1), .val (.int (0 : Int32)), .val (.int ch), .val (.ref ob), .val (.int may), .val (.int (1 : Int32)), .val (.int (2 : Int32)), .val (.int (1 : Int32)), .val (.int (1 : Int32)), .val (.int (0 : Int32))] [(.int (1 : Int32)), (.int may)])) (fun t stp => XS.iload X28.here hx rfl (hb hby at_151) rfl stp) ?_
        have hc153_32 : may = (1 : Int32) := by rw [h_may]; exact (own_may_1 (by omega)).symm
        have ihc153_32 : may.toInt = 1 := own_ieq hc153_32
        refine own_up (S' := T28.setTop (mkF m 156 #[.val (.int c1), .val (.int s1), .val (.int f1), .val (.int (0 : Int32)), .val (.int ch), .val (.ref ob), .val (.int may), .val (.int (1 : Int32)), .val (.int (2 : Int32)), .val (.int (1 : Int32)), .val (.int (1 : Int32)), .val (.int (0 : Int32))] [])) (fun t stp => XS.icmpNo X28.here hx rfl (hb hby at_153) rfl (XT.ii_ne_f hc153_32) stp) ?_
        refine own_up (S' := T28.setTop (mkF m 158 #[.val (.int c1), .val (.int s1), .val (.int f1), .val (.int (0 : Int32)), .val (.int ch), .val (.ref ob), .val (.int may), .val (.int (1 : Int32)), .val (.int (2 : Int32)), .val (.int (1 : Int32)), .val (.int (1 : Int32)), .val (.int (0 : Int32))] [(.int may)])) (fun t stp => XS.iload X28.here hx rfl (hb hby at_156) rfl stp) ?_
        have hc158_33 : ¬ (may = 0) := by rw [hc153_32]; decide
        have ihc158_33 : may.toInt ≠ 0 := own_ine hc158_33
        refine own_up (S' := T28.setTop (mkF m 161 #[.val (.int c1), .val (.int s1), .val (.int f1), .val (.int (0 : Int32)), .val (.int ch), .val (.ref ob), .val (.int may), .val (.int (1 : Int32)), .val (.int (2 : Int32)), .val (.int (1 : Int32)), .val (.int (1 : Int32)), .val (.int (0 : Int32))] [])) (fun t stp => XS.ifNo X28.here hx rfl (hb hby at_158) rfl (XT.i0_eq_f hc158_33) stp) ?_
        refine own_up (S' := T28.setTop (mkF m 163 #[.val (.int c1), .val (.int s1), .val (.int f1), .val (.int (0 : Int32)), .val (.int ch), .val (.ref ob), .val (.int may), .val (.int (1 : Int32)), .val (.int (2 : Int32)), .val (.int (1 : Int32)), .val (.int (1 : Int32)), .val (.int (0 : Int32))] [(.int (1 : Int32))])) (fun t stp => XS.iload X28.here hx rfl (hb hby at_161) rfl stp) ?_
        have hc163_34 : ¬ ((1 : Int32) = 0) := by decide
        refine own_up (S' := T28.setTop (mkF m 166 #[.val (.int c1), .val (.int s1), .val (.int f1), .val (.int (0 : Int32)), .val (.int ch), .val (.ref ob), .val (.int may), .val (.int (1 : Int32)), .val (.int (2 : Int32)), .val (.int (1 : Int32)), .val (.int (1 : Int32)), .val (.int (0 : Int32))] [])) (fun t stp => XS.ifNo X28.here hx rfl (hb hby at_163) rfl (XT.i0_eq_f hc163_34) stp) ?_
        refine own_up (S' := T28.setTop (mkF m 174 #[.val (.int c1), .val (.int s1), .val (.int f1), .val (.int (0 : Int32)), .val (.int ch), .val (.ref ob), .val (.int may), .val (.int (1 : Int32)), .val (.int (2 : Int32)), .val (.int (1 : Int32)), .val (.int (1 : Int32)), .val (.int (0 : Int32))] [])) (fun t stp => XS.goto X28.here hx rfl (pc0 := 166) (pc' := 174) rfl (hb hby at_166) (by decide) (by decide) stp) ?_
        refine own_up (S' := T28.setTop (mkF m 175 #[.val (.int c1), .val (.int s1), .val (.int f1), .val (.int (0 : Int32)), .val (.int ch), .val (.ref ob), .val (.int may), .val (.int (1 : Int32)), .val (.int (2 : Int32)), .val (.int (1 : Int32)), .val (.int (1 : Int32)), .val (.int (0 : Int32))] [(.int (1 : Int32))])) (fun t stp => XT.iconstV X28.here hx rfl (1 : Int32) (hb hby at_174) rfl stp) ?_
        refine own_up (S' := T28.setTop (mkF m 179 #[.val (.int c1), .val (.int s1), .val (.int f1), .val (.int (0 : Int32)), .val (.int ch), .val (.ref ob), .val (.int may), .val (.int (1 : Int32)), .val (.int (2 : Int32)), .val (.int (1 : Int32)), .val (.int (1 : Int32)), .val (.int (0 : Int32))] [(.int (1 : Int32))])) (fun t stp => XS.goto X28.here hx rfl (pc0 := 175) (pc' := 179) rfl (hb hby at_175) (by decide) (by decide) stp) ?_
        refine own_retN X28 hx hlk (t := .boolean) hret (by simp) (z' := (1 : Int32)) rfl (hb hby at_179) (by decide) (by decide) ?_
        show own_Q0 Z c1 s1 f1 h0 n0 _ T28.heap _
        rw [e28]
        exact ⟨rfl, N28⟩
      · have ihc60_23 : ch.toInt ≠ 13 := own_ine hc60_23
        refine own_up (S' := T10.setTop (mkF m 63 #[.val (.int c1), .val (.int s1), .val (.int f1), .val (.int (0 : Int32)), .val (.int ch), .val (.ref ob), .val (.int may), .unset, .unset, .unset, .unset, .unset] [])) (fun t stp => XS.icmpNo X10.here hx rfl (hb hby at_60) rfl (XT.ii_eq_f hc60_23) stp) ?_
        refine own_up (S' := T10.setTop (mkF m 64 #[.val (.int c1), .val (.int s1), .val (.int f1), .val (.int (0 : Int32)), .val (.int ch), .val (.ref ob), .val (.int may), .unset, .unset, .unset, .unset, .unset] [(.int (0 : Int32))])) (fun t stp => XS.iloadN X10.here hx rfl (hb hby at_63) rfl stp) ?_
        have hc64_35 : (0 : Int32) = 0 := hc32_9
        refine own_up (S' := T10.setTop (mkF m 87 #[.val (.int c1), .val (.int s1), .val (.int f1), .val (.int (0 : Int32)), .val (.int ch), .val (.ref ob), .val (.int may), .unset, .unset, .unset, .unset, .unset] [])) (fun t stp => XS.ifYes X10.here hx rfl (pc0 := 64) (pc' := 87) rfl (hb hby at_64) rfl (XT.i0_eq_t hc64_35) (by decide) (by decide) stp) ?_
        refine own_up (S' := T10.setTop (mkF m 88 #[.val (.int c1), .val (.int s1), .val (.int f1), .val (.int (0 : Int32)), .val (.int ch), .val (.ref ob), .val (.int may), .unset, .unset, .unset, .unset, .unset] [(.int (0 : Int32))])) (fun t stp => XT.iconstV X10.here hx rfl (0 : Int32) (hb hby at_87) rfl stp) ?_
        refine own_up (S' := T10.setTop (mkF m 90 #[.val (.int c1), .val (.int s1), .val (.int f1), .val (.int (0 : Int32)), .val (.int ch), .val (.ref ob), .val (.int may), .val (.int (0 : Int32)), .unset, .unset, .unset, .unset] [])) (fun t stp => XS.istore X10.here hx rfl (hb hby at_88) rfl (l' := #[.val (.int c1), .val (.int s1), .val (.int f1), .val (.int (0 : Int32)), .val (.int ch), .val (.ref ob), .val (.int may), .val (.int (0 : Int32)), .unset, .unset, .unset, .unset]) rfl stp) ?_
        refine own_up (S' := T10.setTop (mkF m 92 #[.val (.int c1), .val (.int s1), .val (.int f1), .val (.int (0 : Int32)), .val (.int ch), .val (.ref ob), .val (.int may), .val (.int (0 : Int32)), .unset, .unset, .unset, .unset] [(.ref ob)])) (fun t stp => XS.aload X10.here hx rfl (hb hby at_90) rfl rfl stp) ?_
        refine own_up (S' := T10.setTop (mkF m 94 #[.val (.int c1), .val (.int s1), .val (.int f1), .val (.int (0 : Int32)), .val (.int ch), .val (.ref ob), .val (.int may), .val (.int (0 : Int32)), .unset, .unset, .unset, .unset] [(.int ch), (.ref ob)])) (fun t stp => XS.iload X10.here hx rfl (hb hby at_92) rfl stp) ?_
        refine own_callV X10 hx hZ hown (hw _ (List.mem_of_getElem? (i := 24) rfl)) (hw _ (List.mem_of_getElem? (i := 25) rfl)) (hw _ (List.mem_of_getElem? (i := 27) rfl)) (hw _ (List.mem_of_getElem? (i := 26) rfl)) (hw _ (List.mem_of_getElem? (i := 6) rfl)) (hw _ (List.mem_of_getElem? (i := 28) rfl)) (by decide) e10 (rm5 l Z a0 hw [] ob ch (1 : Int32) (1 : Int32) (0 : Int32) (0 : Int32) T6.heap n0 Zn7 G6a_6 G6b_6 G6c_6 G6d_6 A3_8 g_ob) 0 A3_8 [(.int ch)] [] (hb hby at_94) (lenOf own_pd3 rfl) (by decide) (by decide) (by decide) (by decide) rfl (by rw [hml]; rfl) rfl (by show 2 * 0 + _ ≤ _; exact Nat.le_of_eq rfl) rfl ?_
        intro T36 L36 r36 X36 q36
        obtain ⟨rfl, M36, K36, G36a_36, G36b_36, G36c_36, G36d_36⟩ := q36
        have N36 := Fr.app N10 M36
        have Zn37 := Nat.le_trans Zn7 K36.1
        have A3_38 := A3_8.keep K36
        show own_Ends p e below s (own_Q0 Z c1 s1 f1 h0 n0) room_1.cells room_1.slots (T36.setTop (mkF m 97 #[.val (.int c1), .val (.int s1), .val (.int f1), .val (.int (0 : Int32)), .val (.int ch), .val (.ref ob), .val (.int may), .val (.int (0 : Int32)), .unset, .unset, .unset, .unset] []))
        refine own_up (S' := T36.setTop (mkF m 99 #[.val (.int c1), .val (.int s1), .val (.int f1), .val (.int (0 : Int32)), .val (.int ch), .val (.ref ob), .val (.int may), .val (.int (0 : Int32)), .unset, .unset, .unset, .unset] [(.ref ob)])) (fun t stp => XS.aload X36.here hx rfl (hb hby at_97) rfl rfl stp) ?_
        refine own_callV X36 hx hZ hown (hw _ (List.mem_of_getElem? (i := 32) rfl)) (hw _ (List.mem_of_getElem? (i := 33) rfl)) (hw _ (List.mem_of_getElem? (i := 35) rfl)) (hw _ (List.mem_of_getElem? (i := 34) rfl)) (hw _ (List.mem_of_getElem? (i := 6) rfl)) (hw _ (List.mem_of_getElem? (i := 36) rfl)) (by decide) rfl (rm3 l Z a0 hw [] ob (own_ln (1 : Int32) (0 : Int32) (0 : Int32) ch) T36.heap n0 Zn37 G36a_36) 0 A3_38 [] [] (hb hby at_99) (lenOf own_pd4 rfl) (by decide) (by decide) (by decide) (by decide) rfl (by rw [hml]; rfl) rfl (by show 2 * 0 + _ ≤ _; exact Nat.le_of_eq rfl) rfl ?_
        intro T39 L39 r39 X39 q39
        obtain ⟨rfl, M39, e39⟩ := q39
        have N39 := Fr.app N36 M39
        show own_Ends p e below s (own_Q0 Z c1 s1 f1 h0 n0) room_1.cells room_1.slots (T39.setTop (mkF m 102 #[.val (.int c1), .val (.int s1), .val (.int f1), .val (.int (0 : Int32)), .val (.int ch), .val (.ref ob), .val (.int may), .val (.int (0 : Int32)), .unset, .unset, .unset, .unset] [(.int (own_ln (1 : Int32) (0 : Int32) (0 : Int32) ch))]))
        obtain ⟨ln, h_ln⟩ : ∃ z : Int32, z = (own_ln (1 : Int32) (0 : Int32) (0 : Int32) ch) := ⟨_, rfl⟩
        rw [← h_ln]
        refine own_up (S' := T39.setTop (mkF m 104 #[.val (.int c1), .val (.int s1), .val (.int f1), .val (.int (0 : Int32)), .val (.int ch), .val (.ref ob), .val (.int may), .val (.int (0 : Int32)), .val (.int ln), .unset, .unset, .unset] [])) (fun t stp => XS.istore X39.here hx rfl (hb hby at_102) rfl (l' := #[.val (.int c1), .val (.int s1), .val (.int f1), .val (.int (0 : Int32)), .val (.int ch), .val (.ref ob), .val (.int may), .val (.int (0 : Int32)), .val (.int ln), .unset, .unset, .unset]) rfl stp) ?_
        have k_ln : ln = (1 : Int32) := by rw [h_ln]; simp [own_ln, own_fd, own_sk, own_en, hc3_1, hc32_9, hc53_11, hc60_23, hc64_35]
        clear h_ln
        subst k_ln
        refine own_up (S' := T39.setTop (mkF m 106 #[.val (.int c1), .val (.int s1), .val (.int f1), .val (.int (0 : Int32)), .val (.int ch), .val (.ref ob), .val (.int may), .val (.int (0 : Int32)), .val (.int (1 : Int32)), .unset, .unset, .unset] [(.ref ob)])) (fun t stp => XS.aload X39.here hx rfl (hb hby at_104) rfl rfl stp) ?_
        refine own_callV X39 hx hZ hown (hw _ (List.mem_of_getElem? (i := 37) rfl)) (hw _ (List.mem_of_getElem? (i := 38) rfl)) (hw _ (List.mem_of_getElem? (i := 40) rfl)) (hw _ (List.mem_of_getElem? (i := 39) rfl)) (hw _ (List.mem_of_getElem? (i := 6) rfl)) (hw _ (List.mem_of_getElem? (i := 41) rfl)) (by decide) e39 (rm4 l Z a0 hw [] ob (own_cl (1 : Int32) (0 : Int32) (0 : Int32) ch) T36.heap n0 Zn37 G36b_36) 0 A3_38 [] [] (hb hby at_106) (lenOf own_pd4 rfl) (by decide) (by decide) (by decide) (by decide) rfl (by rw [hml]; rfl) rfl (by show 2 * 0 + _ ≤ _; exact Nat.le_of_eq rfl) rfl ?_
        intro T40 L40 r40 X40 q40
        obtain ⟨rfl, M40, e40⟩ := q40
        have N40 := Fr.app N39 M40
        show own_Ends p e below s (own_Q0 Z c1 s1 f1 h0 n0) room_1.cells room_1.slots (T40.setTop (mkF m 109 #[.val (.int c1), .val (.int s1), .val (.int f1), .val (.int (0 : Int32)), .val (.int ch), .val (.ref ob), .val (.int may), .val (.int (0 : Int32)), .val (.int (1 : Int32)), .unset, .unset, .unset] [(.int (own_cl (1 : Int32) (0 : Int32) (0 : Int32) ch))]))
        obtain ⟨cl, h_cl⟩ : ∃ z : Int32, z = (own_cl (1 : Int32) (0 : Int32) (0 : Int32) ch) := ⟨_, rfl⟩
        rw [← h_cl]
        refine own_up (S' := T40.setTop (mkF m 111 #[.val (.int c1), .val (.int s1), .val (.int f1), .val (.int (0 : Int32)), .val (.int ch), .val (.ref ob), .val (.int may), .val (.int (0 : Int32)), .val (.int (1 : Int32)), .val (.int cl), .unset, .unset] [])) (fun t stp => XS.istore X40.here hx rfl (hb hby at_109) rfl (l' := #[.val (.int c1), .val (.int s1), .val (.int f1), .val (.int (0 : Int32)), .val (.int ch), .val (.ref ob), .val (.int may), .val (.int (0 : Int32)), .val (.int (1 : Int32)), .val (.int cl), .unset, .unset]) rfl stp) ?_
        have k_cl : 1 < cl.toInt := by rw [h_cl]; simp only [own_cl]; rw [if_neg (by simp [own_fd, own_sk, own_en, hc3_1, hc32_9, hc53_11, hc60_23, hc64_35]), if_neg (by simp [own_fd, own_sk, own_en, hc3_1, hc32_9, hc53_11, hc60_23, hc64_35])]; split <;> decide
        refine own_up (S' := T40.setTop (mkF m 113 #[.val (.int c1), .val (.int s1), .val (.int f1), .val (.int (0 : Int32)), .val (.int ch), .val (.ref ob), .val (.int may), .val (.int (0 : Int32)), .val (.int (1 : Int32)), .val (.int cl), .unset, .unset] [(.int (1 : Int32))])) (fun t stp => XS.iload X40.here hx rfl (hb hby at_111) rfl stp) ?_
        refine own_up (S' := T40.setTop (mkF m 114 #[.val (.int c1), .val (.int s1), .val (.int f1), .val (.int (0 : Int32)), .val (.int ch), .val (.ref ob), .val (.int may), .val (.int (0 : Int32)), .val (.int (1 : Int32)), .val (.int cl), .unset, .unset] [(.int (2 : Int32)), (.int (1 : Int32))])) (fun t stp => XT.iconstV X40.here hx rfl (2 : Int32) (hb hby at_113) rfl stp) ?_
        have hc114_41 : ¬ ((1 : Int32) = (2 : Int32)) := by decide
        refine own_up (S' := T40.setTop (mkF m 127 #[.val (.int c1), .val (.int s1), .val (.int f1), .val (.int (0 : Int32)), .val (.int ch), .val (.ref ob), .val (.int may), .val (.int (0 : Int32)), .val (.int (1 : Int32)), .val (.int cl), .unset, .unset] [])) (fun t stp => XS.icmpYes X40.here hx rfl (pc0 := 114) (pc' := 127) rfl (hb hby at_114) rfl (XT.ii_ne_t hc114_41) (by decide) (by decide) stp) ?_
        refine own_up (S' := T40.setTop (mkF m 128 #[.val (.int c1), .val (.int s1), .val (.int f1), .val (.int (0 : Int32)), .val (.int ch), .val (.ref ob), .val (.int may), .val (.int (0 : Int32)), .val (.int (1 : Int32)), .val (.int cl), .unset, .unset] [(.int (0 : Int32))])) (fun t stp => XT.iconstV X40.here hx rfl (0 : Int32) (hb hby at_127) rfl stp) ?_
        refine own_up (S' := T40.setTop (mkF m 130 #[.val (.int c1), .val (.int s1), .val (.int f1), .val (.int (0 : Int32)), .val (.int ch), .val (.ref ob), .val (.int may), .val (.int (0 : Int32)), .val (.int (1 : Int32)), .val (.int cl), .val (.int (0 : Int32)), .unset] [])) (fun t stp => XS.istore X40.here hx rfl (hb hby at_128) rfl (l' := #[.val (.int c1), .val (.int s1), .val (.int f1), .val (.int (0 : Int32)), .val (.int ch), .val (.ref ob), .val (.int may), .val (.int (0 : Int32)), .val (.int (1 : Int32)), .val (.int cl), .val (.int (0 : Int32)), .unset]) rfl stp) ?_
        refine own_up (S' := T40.setTop (mkF m 132 #[.val (.int c1), .val (.int s1), .val (.int f1), .val (.int (0 : Int32)), .val (.int ch), .val (.ref ob), .val (.int may), .val (.int (0 : Int32)), .val (.int (1 : Int32)), .val (.int cl), .val (.int (0 : Int32)), .unset] [(.int (1 : Int32))])) (fun t stp => XS.iload X40.here hx rfl (hb hby at_130) rfl stp) ?_
        refine own_up (S' := T40.setTop (mkF m 133 #[.val (.int c1), .val (.int s1), .val (.int f1), .val (.int (0 : Int32)), .val (.int ch), .val (.ref ob), .val (.int may), .val (.int (0 : Int32)), .val (.int (1 : Int32)), .val (.int cl), .val (.int (0 : Int32)), .unset] [(.int (1 : Int32)), (.int (1 : Int32))])) (fun t stp => XT.iconstV X40.here hx rfl (1 : Int32) (hb hby at_132) rfl stp) ?_
        have hc133_42 : (1 : Int32) = (1 : Int32) := rfl
        refine own_up (S' := T40.setTop (mkF m 136 #[.val (.int c1), .val (.int s1), .val (.int f1), .val (.int (0 : Int32)), .val (.int ch), .val (.ref ob), .val (.int may), .val (.int (0 : Int32)), .val (.int (1 : Int32)), .val (.int cl), .val (.int (0 : Int32)), .unset] [])) (fun t stp => XS.icmpNo X40.here hx rfl (hb hby at_133) rfl (XT.ii_ne_f hc133_42) stp) ?_
        refine own_up (S' := T40.setTop (mkF m 138 #[.val (.int c1), .val (.int s1), .val (.int f1), .val (.int (0 : Int32)), .val (.int ch), .val (.ref ob), .val (.int may), .val (.int (0 : Int32)), .val (.int (1 : Int32)), .val (.int cl), .val (.int (0 : Int32)), .unset] [(.int cl)])) (fun t stp => XS.iload X40.here hx rfl (hb hby at_136) rfl stp) ?_
        refine own_up (S' := T40.setTop (mkF m 139 #[.val (.int c1), .val (.int s1), .val (.int f1), .val (.int (0 : Int32)), .val (.int ch), .val (.ref ob), .val (.int may), .val (.int (0 : Int32)), .val (.int (1 : Int32)), .val (.int cl), .val (.int (0 : Int32)), .unset] [(.int (1 : Int32)), (.int cl)])) (fun t stp => XT.iconstV X40.here hx rfl (1 : Int32) (hb hby at_138) rfl stp) ?_
        have ihc139_43 : 1 < cl.toInt := by omega
        have hc139_43 : (1 : Int32) < cl := own_ilt_of ihc139_43
        refine own_up (S' := T40.setTop (mkF m 142 #[.val (.int c1), .val (.int s1), .val (.int f1), .val (.int (0 : Int32)), .val (.int ch), .val (.ref ob), .val (.int may), .val (.int (0 : Int32)), .val (.int (1 : Int32)), .val (.int cl), .val (.int (0 : Int32)), .unset] [])) (fun t stp => XS.icmpNo X40.here hx rfl (hb hby at_139) rfl (XT.ii_le_f hc139_43) stp) ?_
        refine own_up (S' := T40.setTop (mkF m 143 #[.val (.int c1), .val (.int s1), .val (.int f1), .val (.int (0 : Int32)), .val (.int ch), .val (.ref ob), .val (.int may), .val (.int (0 : Int32)), .val (.int (1 : Int32)), .val (.int cl), .val (.int (0 : Int32)), .unset] [(.int (1 : Int32))])) (fun t stp => XT.iconstV X40.here hx rfl (1 : Int32) (hb hby at_142) rfl stp) ?_
        refine own_up (S' := T40.setTop (mkF m 147 #[.val (.int c1), .val (.int s1), .val (.int f1), .val (.int (0 : Int32)), .val (.int ch), .val (.ref ob), .val (.int may), .val (.int (0 : Int32)), .val (.int (1 : Int32)), .val (.int cl), .val (.int (0 : Int32)), .unset] [(.int (1 : Int32))])) (fun t stp => XS.goto X40.here hx rfl (pc0 := 143) (pc' := 147) rfl (hb hby at_143) (by decide) (by decide) stp) ?_
        refine own_up (S' := T40.setTop (mkF m 149 #[.val (.int c1), .val (.int s1), .val (.int f1), .val (.int (0 : Int32)), .val (.int ch), .val (.ref ob), .val (.int may), .val (.int (0 : Int32)), .val (.int (1 : Int32)), .val (.int cl), .val (.int (0 : Int32)), .val (.int (1 : Int32))] [])) (fun t stp => XS.istore X40.here hx rfl (hb hby at_147) rfl (l' := #[.val (.int c1), .val (.int s1), .val (.int f1), .val (.int (0 : Int32)), .val (.int ch), .val (.ref ob), .val (.int may), .val (.int (0 : Int32)), .val (.int (1 : Int32)), .val (.int cl), .val (.int (0 : Int32)), .val (.int (1 : Int32))]) rfl stp) ?_
        refine own_up (S' := T40.setTop (mkF m 151 #[.val (.int c1), .val (.int s1), .val (.int f1), .val (.int (0 : Int32)), .val (.int ch), .val (.ref ob), .val (.int may), .val (.int (0 : Int32)), .val (.int (1 : Int32)), .val (.int cl), .val (.int (0 : Int32)), .val (.int (1 : Int32))] [(.int may)])) (fun t stp => XS.iload X40.here hx rfl (hb hby at_149) rfl stp) ?_
        refine own_up (S' := T40.setTop (mkF m 153 #[.val (.int c1), .val (.int s1), .val (.int f1), .val (.int (0 : Int32)), .val (.int ch), .val (.ref ob), .val (.int may), .val (.int (0 : Int32)), .val (.int (1 : Int32)), .val (.int cl), .val (.int (0 : Int32)), .val (.int (1 : Int32))] [(.int (0 : Int32)), (.int may)])) (fun t stp => XS.iload X40.here hx rfl (hb hby at_151) rfl stp) ?_
        have hc153_44 : may = (0 : Int32) := by rw [h_may]; exact (own_may_0 (by omega)).symm
        have ihc153_44 : may.toInt = 0 := own_ieq hc153_44
        refine own_up (S' := T40.setTop (mkF m 156 #[.val (.int c1), .val (.int s1), .val (.int f1), .val (.int (0 : Int32)), .val (.int ch), .val (.ref ob), .val (.int may), .val (.int (0 : Int32)), .val (.int (1 : Int32)), .val (.int cl), .val (.int (0 : Int32)), .val (.int (1 : Int32))] [])) (fun t stp => XS.icmpNo X40.here hx rfl (hb hby at_153) rfl (XT.ii_ne_f hc153_44) stp) ?_
        refine own_up (S' := T40.setTop (mkF m 158 #[.val (.int c1), .val (.int s1), .val (.int f1), .val (.int (0 : Int32)), .val (.int ch), .val (.ref ob), .val (.int may), .val (.int (0 : Int32)), .val (.int (1 : Int32)), .val (.int cl), .val (.int (0 : Int32)), .val (.int (1 : Int32))] [(.int may)])) (fun t stp => XS.iload X40.here hx rfl (hb hby at_156) rfl stp) ?_
        have hc158_45 : may = 0 := hc153_44
        have ihc158_45 : may.toInt = 0 := own_ieq hc158_45
        refine own_up (S' := T40.setTop (mkF m 169 #[.val (.int c1), .val (.int s1), .val (.int f1), .val (.int (0 : Int32)), .val (.int ch), .val (.ref ob), .val (.int may), .val (.int (0 : Int32)), .val (.int (1 : Int32)), .val (.int cl), .val (.int (0 : Int32)), .val (.int (1 : Int32))] [])) (fun t stp => XS.ifYes X40.here hx rfl (pc0 := 158) (pc' := 169) rfl (hb hby at_158) rfl (XT.i0_eq_t hc158_45) (by decide) (by decide) stp) ?_
        refine own_up (S' := T40.setTop (mkF m 171 #[.val (.int c1), .val (.int s1), .val (.int f1), .val (.int (0 : Int32)), .val (.int ch), .val (.ref ob), .val (.int may), .val (.int (0 : Int32)), .val (.int (1 : Int32)), .val (.int cl), .val (.int (0 : Int32)), .val (.int (1 : Int32))] [(.int (1 : Int32))])) (fun t stp => XS.iload X40.here hx rfl (hb hby at_169) rfl stp) ?_
        have hc171_46 : ¬ ((1 : Int32) = 0) := by decide
        refine own_up (S' := T40.setTop (mkF m 174 #[.val (.int c1), .val (.int s1), .val (.int f1), .val (.int (0 : Int32)), .val (.int ch), .val (.ref ob), .val (.int may), .val (.int (0 : Int32)), .val (.int (1 : Int32)), .val (.int cl), .val (.int (0 : Int32)), .val (.int (1 : Int32))] [])) (fun t stp => XS.ifNo X40.here hx rfl (hb hby at_171) rfl (XT.i0_eq_f hc171_46) stp) ?_
        refine own_up (S' := T40.setTop (mkF m 175 #[.val (.int c1), .val (.int s1), .val (.int f1), .val (.int (0 : Int32)), .val (.int ch), .val (.ref ob), .val (.int may), .val (.int (0 : Int32)), .val (.int (1 : Int32)), .val (.int cl), .val (.int (0 : Int32)), .val (.int (1 : Int32))] [(.int (1 : Int32))])) (fun t stp => XT.iconstV X40.here hx rfl (1 : Int32) (hb hby at_174) rfl stp) ?_
        refine own_up (S' := T40.setTop (mkF m 179 #[.val (.int c1), .val (.int s1), .val (.int f1), .val (.int (0 : Int32)), .val (.int ch), .val (.ref ob), .val (.int may), .val (.int (0 : Int32)), .val (.int (1 : Int32)), .val (.int cl), .val (.int (0 : Int32)), .val (.int (1 : Int32))] [(.int (1 : Int32))])) (fun t stp => XS.goto X40.here hx rfl (pc0 := 175) (pc' := 179) rfl (hb hby at_175) (by decide) (by decide) stp) ?_
        refine own_retN X40 hx hlk (t := .boolean) hret (by simp) (z' := (1 : Int32)) rfl (hb hby at_179) (by decide) (by decide) ?_
        show own_Q0 Z c1 s1 f1 h0 n0 _ T40.heap _
        rw [e40]
        exact ⟨rfl, N40⟩
  · have ihc3_1 : (f1 &&& (1 : Int32)).toInt ≠ 0 := own_ine hc3_1
    refine own_up (S' := T0.setTop (mkF m 6 #[.val (.int c1), .val (.int s1), .val (.int f1), .unset, .unset, .unset, .unset, .unset, .unset, .unset, .unset, .unset] [])) (fun t stp => XS.ifNo X0.here hx rfl (hb hby at_3) rfl (XT.i0_eq_f hc3_1) stp) ?_
    refine own_up (S' := T0.setTop (mkF m 7 #[.val (.int c1), .val (.int s1), .val (.int f1), .unset, .unset, .unset, .unset, .unset, .unset, .unset, .unset, .unset] [(.int (1 : Int32))])) (fun t stp => XT.iconstV X0.here hx rfl (1 : Int32) (hb hby at_6) rfl stp) ?_
    refine own_up (S' := T0.setTop (mkF m 11 #[.val (.int c1), .val (.int s1), .val (.int f1), .unset, .unset, .unset, .unset, .unset, .unset, .unset, .unset, .unset] [(.int (1 : Int32))])) (fun t stp => XS.goto X0.here hx rfl (pc0 := 7) (pc' := 11) rfl (hb hby at_7) (by decide) (by decide) stp) ?_
    refine own_up (S' := T0.setTop (mkF m 12 #[.val (.int c1), .val (.int s1), .val (.int f1), .val (.int (1 : Int32)), .unset, .unset, .unset, .unset, .unset, .unset, .unset, .unset] [])) (fun t stp => XS.istoreN X0.here hx rfl (hb hby at_11) rfl (l' := #[.val (.int c1), .val (.int s1), .val (.int f1), .val (.int (1 : Int32)), .unset, .unset, .unset, .unset, .unset, .unset, .unset, .unset]) rfl stp) ?_
    refine own_up (S' := T0.setTop (mkF m 13 #[.val (.int c1), .val (.int s1), .val (.int f1), .val (.int (1 : Int32)), .unset, .unset, .unset, .unset, .unset, .unset, .unset, .unset] [(.int c1)])) (fun t stp => XS.iloadN X0.here hx rfl (hb hby at_12) rfl stp) ?_
    refine own_up (S' := T0.setTop (mkF m 14 #[.val (.int c1), .val (.int s1), .val (.int f1), .val (.int (1 : Int32)), .unset, .unset, .unset, .unset, .unset, .unset, .unset, .unset] [(.int s1), (.int c1)])) (fun t stp => XS.iloadN X0.here hx rfl (hb hby at_13) rfl stp) ?_
    refine own_up (S' := T0.setTop (mkF m 16 #[.val (.int c1), .val (.int s1), .val (.int f1), .val (.int (1 : Int32)), .unset, .unset, .unset, .unset, .unset, .unset, .unset, .unset] [(.int (7 : Int32)), (.int s1), (.int c1)])) (fun t stp => XT.bipushV X0.here hx rfl (7 : Int32) (hb hby at_14) rfl stp) ?_
    refine own_up (S' := T0.setTop (mkF m 17 #[.val (.int c1), .val (.int s1), .val (.int f1), .val (.int (1 : Int32)), .unset, .unset, .unset, .unset, .unset, .unset, .unset, .unset] [(.int (s1 &&& (7 : Int32))), (.int c1)])) (fun t stp => XS.iand X0.here hx rfl (hb hby at_16) rfl stp) ?_
    refine own_callS X0 hx hZ hown (hw _ (List.mem_of_getElem? (i := 0) rfl)) (hw _ (List.mem_of_getElem? (i := 1) rfl)) (hw _ (List.mem_of_getElem? (i := 2) rfl)) (hw _ (List.mem_of_getElem? (i := 3) rfl)) (by decide) e0 (rm6 l Z a0 hw [] c1 (s1 &&& (7 : Int32)) h0 n0 Z0 ) 0 [(.int c1), (.int (s1 &&& (7 : Int32)))] [] (hb hby at_17) (lenOf own_pd0 rfl) (by decide) (by decide) (by decide) (by decide) rfl (by rw [hml]; rfl) rfl (by show 2 * 0 + _ ≤ _; exact Nat.le_of_eq rfl) rfl ?_
    intro T47 L47 r47 X47 q47
    obtain ⟨ch, rfl, hr_ch, M47, e47⟩ := q47
    have N47 := Fr.app N0 M47
    show own_Ends p e below s (own_Q0 Z c1 s1 f1 h0 n0) room_1.cells room_1.slots (T47.setTop (mkF m 20 #[.val (.int c1), .val (.int s1), .val (.int f1), .val (.int (1 : Int32)), .unset, .unset, .unset, .unset, .unset, .unset, .unset, .unset] [(.int ch)]))
    refine own_up (S' := T47.setTop (mkF m 22 #[.val (.int c1), .val (.int s1), .val (.int f1), .val (.int (1 : Int32)), .val (.int ch), .unset, .unset, .unset, .unset, .unset, .unset, .unset] [])) (fun t stp => XS.istore X47.here hx rfl (hb hby at_20) rfl (l' := #[.val (.int c1), .val (.int s1), .val (.int f1), .val (.int (1 : Int32)), .val (.int ch), .unset, .unset, .unset, .unset, .unset, .unset, .unset]) rfl stp) ?_
    refine own_new X47 hx hZ hown (hw _ (List.mem_of_getElem? (i := 4) rfl)) (hw _ (List.mem_of_getElem? (i := 5) rfl)) (hw _ (List.mem_of_getElem? (i := 6) rfl)) e47 rfl (hb hby at_22) (by decide) (by decide) ?_
    intro T48 h48 ob hb48 X48 e48 E48 A48 D48
    have g_ob : n0 ≤ ob := Nat.le_trans Z0 (Nat.le_of_eq hb48.symm)
    have Zn49 := Nat.le_trans Z0 E48.1
    have Fline_ob : Fld Z h48 ob "com/example/viewrite/viewrite/io/xml/Place" "line" "I" (.int (0 : Int32)) := D48 (Or.inl (hw _ (List.mem_of_getElem? (i := 14) rfl))) (ty := .int) (by decide)
    have Fcolumn_ob : Fld Z h48 ob "com/example/viewrite/viewrite/io/xml/Place" "column" "I" (.int (0 : Int32)) := D48 (Or.inl (hw _ (List.mem_of_getElem? (i := 16) rfl))) (ty := .int) (by decide)
    have Fxml11_ob : Fld Z h48 ob "com/example/viewrite/viewrite/io/xml/Place" "xml11" "Z" (.int (0 : Int32)) := D48 (Or.inl (hw _ (List.mem_of_getElem? (i := 23) rfl))) (ty := .boolean) (by decide)
    have FafterCarriageReturn_ob : Fld Z h48 ob "com/example/viewrite/viewrite/io/xml/Place" "afterCarriageReturn" "Z" (.int (0 : Int32)) := D48 (Or.inl (hw _ (List.mem_of_getElem? (i := 31) rfl))) (ty := .boolean) (by decide)
    show own_Ends p e below s (own_Q0 Z c1 s1 f1 h0 n0) room_1.cells room_1.slots (T48.setTop (mkF m 25 #[.val (.int c1), .val (.int s1), .val (.int f1), .val (.int (1 : Int32)), .val (.int ch), .unset, .unset, .unset, .unset, .unset, .unset, .unset] [(.ref ob)]))
    refine own_up (S' := T48.setTop (mkF m 26 #[.val (.int c1), .val (.int s1), .val (.int f1), .val (.int (1 : Int32)), .val (.int ch), .unset, .unset, .unset, .unset, .unset, .unset, .unset] [(.ref ob), (.ref ob)])) (fun t stp => XS.dup X48.here hx rfl (hb hby at_25) rfl rfl stp) ?_
    refine own_callI X48 hx hZ rfl hown (hw _ (List.mem_of_getElem? (i := 7) rfl)) (hw _ (List.mem_of_getElem? (i := 8) rfl)) (hw _ (List.mem_of_getElem? (i := 6) rfl)) (hw _ (List.mem_of_getElem? (i := 9) rfl)) (by decide) e48 (rm1 l Z a0 hw [] ob h48 n0 Zn49 Fline_ob Fcolumn_ob Fxml11_ob FafterCarriageReturn_ob A48 g_ob) 1 ob [] [(.ref ob)] (hb hby at_26) (lenOf own_pd1 rfl) (by decide) (by decide) (by decide) (by decide) rfl (by rw [hml]; rfl) rfl (by show 2 * 0 + _ ≤ _; exact Nat.le_of_eq rfl) rfl ?_
    intro T51 L51 r51 X51 q51
    obtain ⟨rfl, M51, K51, G51a_51, G51b_51, G51c_51, G51d_51⟩ := q51
    have N51 := Fr.app N47 M51
    have Zn52 := Nat.le_trans Zn49 K51.1
    have A48_53 := A48.keep K51
    show own_Ends p e below s (own_Q0 Z c1 s1 f1 h0 n0) room_1.cells room_1.slots (T51.setTop (mkF m 29 #[.val (.int c1), .val (.int s1), .val (.int f1), .val (.int (1 : Int32)), .val (.int ch), .unset, .unset, .unset, .unset, .unset, .unset, .unset] [(.ref ob)]))
    refine own_up (S' := T51.setTop (mkF m 31 #[.val (.int c1), .val (.int s1), .val (.int f1), .val (.int (1 : Int32)), .val (.int ch), .val (.ref ob), .unset, .unset, .unset, .unset, .unset, .unset] [])) (fun t stp => XS.astore X51.here hx rfl (hb hby at_29) rfl rfl (l' := #[.val (.int c1), .val (.int s1), .val (.int f1), .val (.int (1 : Int32)), .val (.int ch), .val (.ref ob), .unset, .unset, .unset, .unset, .unset, .unset]) rfl stp) ?_
    refine own_up (S' := T51.setTop (mkF m 32 #[.val (.int c1), .val (.int s1), .val (.int f1), .val (.int (1 : Int32)), .val (.int ch), .val (.ref ob), .unset, .unset, .unset, .unset, .unset, .unset] [(.int (1 : Int32))])) (fun t stp => XS.iloadN X51.here hx rfl (hb hby at_31) rfl stp) ?_
    have hc32_54 : ¬ ((1 : Int32) = 0) := by decide
    refine own_up (S' := T51.setTop (mkF m 35 #[.val (.int c1), .val (.int s1), .val (.int f1), .val (.int (1 : Int32)), .val (.int ch), .val (.ref ob), .unset, .unset, .unset, .unset, .unset, .unset] [])) (fun t stp => XS.ifNo X51.here hx rfl (hb hby at_32) rfl (XT.i0_eq_f hc32_54) stp) ?_
    refine own_up (S' := T51.setTop (mkF m 37 #[.val (.int c1), .val (.int s1), .val (.int f1), .val (.int (1 : Int32)), .val (.int ch), .val (.ref ob), .unset, .unset, .unset, .unset, .unset, .unset] [(.ref ob)])) (fun t stp => XS.aload X51.here hx rfl (hb hby at_35) rfl rfl stp) ?_
    refine own_callV X51 hx hZ hown (hw _ (List.mem_of_getElem? (i := 42) rfl)) (hw _ (List.mem_of_getElem? (i := 43) rfl)) (hw _ (List.mem_of_getElem? (i := 45) rfl)) (hw _ (List.mem_of_getElem? (i := 44) rfl)) (hw _ (List.mem_of_getElem? (i := 6) rfl)) (hw _ (List.mem_of_getElem? (i := 46) rfl)) (by decide) rfl (rm2 l Z a0 hw [] ob (1 : Int32) (1 : Int32) (0 : Int32) (0 : Int32) T51.heap n0 Zn52 G51a_51 G51b_51 G51c_51 G51d_51 A48_53 g_ob) 0 A48_53 [] [] (hb hby at_37) (lenOf own_pd1 rfl) (by decide) (by decide) (by decide) (by decide) rfl (by rw [hml]; rfl) rfl (by show 2 * 0 + _ ≤ _; exact Nat.le_of_eq rfl) rfl ?_
    intro T55 L55 r55 X55 q55
    obtain ⟨rfl, M55, K55, G55a_55, G55b_55, G55c_55, G55d_55⟩ := q55
    have N55 := Fr.app N51 M55
    have Zn56 := Nat.le_trans Zn52 K55.1
    have A48_57 := A48_53.keep K55
    show own_Ends p e below s (own_Q0 Z c1 s1 f1 h0 n0) room_1.cells room_1.slots (T55.setTop (mkF m 40 #[.val (.int c1), .val (.int s1), .val (.int f1), .val (.int (1 : Int32)), .val (.int ch), .val (.ref ob), .unset, .unset, .unset, .unset, .unset, .unset] []))
    refine own_up (S' := T55.setTop (mkF m 42 #[.val (.int c1), .val (.int s1), .val (.int f1), .val (.int (1 : Int32)), .val (.int ch), .val (.ref ob), .unset, .unset, .unset, .unset, .unset, .unset] [(.ref ob)])) (fun t stp => XS.aload X55.here hx rfl (hb hby at_40) rfl rfl stp) ?_
    refine own_up (S' := T55.setTop (mkF m 44 #[.val (.int c1), .val (.int s1), .val (.int f1), .val (.int (1 : Int32)), .val (.int ch), .val (.ref ob), .unset, .unset, .unset, .unset, .unset, .unset] [(.int ch), (.ref ob)])) (fun t stp => XS.iload X55.here hx rfl (hb hby at_42) rfl stp) ?_
    refine own_callV X55 hx hZ hown (hw _ (List.mem_of_getElem? (i := 17) rfl)) (hw _ (List.mem_of_getElem? (i := 18) rfl)) (hw _ (List.mem_of_getElem? (i := 20) rfl)) (hw _ (List.mem_of_getElem? (i := 19) rfl)) (hw _ (List.mem_of_getElem? (i := 6) rfl)) (hw _ (List.mem_of_getElem? (i := 21) rfl)) (by decide) rfl (rm7 l Z a0 hw [] ob ch (1 : Int32) T55.heap n0 Zn56 G55c_55) 0 A48_57 [(.int ch)] [] (hb hby at_44) (lenOf own_pd2 rfl) (by decide) (by decide) (by decide) (by decide) rfl (by rw [hml]; rfl) rfl (by show 2 * 0 + _ ≤ _; exact Nat.le_of_eq rfl) rfl ?_
    intro T58 L58 r58 X58 q58
    obtain ⟨rfl, M58, e58⟩ := q58
    have N58 := Fr.app N55 M58
    show own_Ends p e below s (own_Q0 Z c1 s1 f1 h0 n0) room_1.cells room_1.slots (T58.setTop (mkF m 47 #[.val (.int c1), .val (.int s1), .val (.int f1), .val (.int (1 : Int32)), .val (.int ch), .val (.ref ob), .unset, .unset, .unset, .unset, .unset, .unset] [(.int (own_may (1 : Int32) ch))]))
    obtain ⟨may, h_may⟩ : ∃ z : Int32, z = (own_may (1 : Int32) ch) := ⟨_, rfl⟩
    rw [← h_may]
    refine own_up (S' := T58.setTop (mkF m 49 #[.val (.int c1), .val (.int s1), .val (.int f1), .val (.int (1 : Int32)), .val (.int ch), .val (.ref ob), .val (.int may), .unset, .unset, .unset, .unset, .unset] [])) (fun t stp => XS.istore X58.here hx rfl (hb hby at_47) rfl (l' := #[.val (.int c1), .val (.int s1), .val (.int f1), .val (.int (1 : Int32)), .val (.int ch), .val (.ref ob), .val (.int may), .unset, .unset, .unset, .unset, .unset]) rfl stp) ?_
    refine own_up (S' := T58.setTop (mkF m 51 #[.val (.int c1), .val (.int s1), .val (.int f1), .val (.int (1 : Int32)), .val (.int ch), .val (.ref ob), .val (.int may), .unset, .unset, .unset, .unset, .unset] [(.int ch)])) (fun t stp => XS.iload X58.here hx rfl (hb hby at_49) rfl stp) ?_
    refine own_up (S' := T58.setTop (mkF m 53 #[.val (.int c1), .val (.int s1), .val (.int f1), .val (.int (1 : Int32)), .val (.int ch), .val (.ref ob), .val (.int may), .unset, .unset, .unset, .unset, .unset] [(.int (10 : Int32)), (.int ch)])) (fun t stp => XT.bipushV X58.here hx rfl (10 : Int32) (hb hby at_51) rfl stp) ?_
    by_cases hc53_59 : ch = (10 : Int32)
    · have ihc53_59 : ch.toInt = 10 := own_ieq hc53_59
      refine own_up (S' := T58.setTop (mkF m 83 #[.val (.int c1), .val (.int s1), .val (.int f1), .val (.int (1 : Int32)), .val (.int ch), .val (.ref ob), .val (.int may), .unset, .unset, .unset, .unset, .unset] [])) (fun t stp => XS.icmpYes X58.here hx rfl (pc0 := 53) (pc' := 83) rfl (hb hby at_53) rfl (XT.ii_eq_t hc53_59) (by decide) (by decide) stp) ?_
      refine own_up (S' := T58.setTop (mkF m 84 #[.val (.int c1), .val (.int s1), .val (.int f1), .val (.int (1 : Int32)), .val (.int ch), .val (.ref ob), .val (.int may), .unset, .unset, .unset, .unset, .unset] [(.int (1 : Int32))])) (fun t stp => XT.iconstV X58.here hx rfl (1 : Int32) (hb hby at_83) rfl stp) ?_
      refine own_up (S' := T58.setTop (mkF m 88 #[.val (.int c1), .val (.int s1), .val (.int f1), .val (.int (1 : Int32)), .val (.int ch), .val (.ref ob), .val (.int may), .unset, .unset, .unset, .unset, .unset] [(.int (1 : Int32))])) (fun t stp => XS.goto X58.here hx rfl (pc0 := 84) (pc' := 88) rfl (hb hby at_84) (by decide) (by decide) stp) ?_
      refine own_up (S' := T58.setTop (mkF m 90 #[.val (.int c1), .val (.int s1), .val (.int f1), .val (.int (1 : Int32)), .val (.int ch), .val (.ref ob), .val (.int may), .val (.int (1 : Int32)), .unset, .unset, .unset, .unset] [])) (fun t stp => XS.istore X58.here hx rfl (hb hby at_88) rfl (l' := #[.val (.int c1), .val (.int s1), .val (.int f1), .val (.int (1 : Int32)), .val (.int ch), .val (.ref ob), .val (.int may), .val (.int (1 : Int32)), .unset, .unset, .unset, .unset]) rfl stp) ?_
      refine own_up (S' := T58.setTop (mkF m 92 #[.val (.int c1), .val (.int s1), .val (.int f1), .val (.int (1 : Int32)), .val (.int ch), .val (.ref ob), .val (.int may), .val (.int (1 : Int32)), .unset, .unset, .unset, .unset] [(.ref ob)])) (fun t stp => XS.aload X58.here hx rfl (hb hby at_90) rfl rfl stp) ?_
      refine own_up (S' := T58.setTop (mkF m 94 #[.val (.int c1), .val (.int s1), .val (.int f1), .val (.int (1 : Int32)), .val (.int ch), .val (.ref ob), .val (.int may), .val (.int (1 : Int32)), .unset, .unset, .unset, .unset] [(.int ch), (.ref ob)])) (fun t stp => XS.iload X58.here hx rfl (hb hby at_92) rfl stp) ?_
      refine own_callV X58 hx hZ hown (hw _ (List.mem_of_getElem? (i := 24) rfl)) (hw _ (List.mem_of_getElem? (i := 25) rfl)) (hw _ (List.mem_of_getElem? (i := 27) rfl)) (hw _ (List.mem_of_getElem? (i := 26) rfl)) (hw _ (List.mem_of_getElem? (i := 6) rfl)) (hw _ (List.mem_of_getElem? (i := 28) rfl)) (by decide) e58 (rm5 l Z a0 hw [] ob ch (1 : Int32) (1 : Int32) (1 : Int32) (0 : Int32) T55.heap n0 Zn56 G55a_55 G55b_55 G55c_55 G55d_55 A48_57 g_ob) 0 A48_57 [(.int ch)] [] (hb hby at_94) (lenOf own_pd3 rfl) (by decide) (by decide) (by decide) (by decide) rfl (by rw [hml]; rfl) rfl (by show 2 * 0 + _ ≤ _; exact Nat.le_of_eq rfl) rfl ?_
      intro T60 L60 r60 X60 q60
      obtain ⟨rfl, M60, K60, G60a_60, G60b_60, G60c_60, G60d_60⟩ := q60
      have N60 := Fr.app N58 M60
      have Zn61 := Nat.le_trans Zn56 K60.1
      have A48_62 := A48_57.keep K60
      show own_Ends p e below s (own_Q0 Z c1 s1 f1 h0 n0) room_1.cells room_1.slots (T60.setTop (mkF m 97 #[.val (.int c1), .val (.int s1), .val (.int f1), .val (.int (1 : Int32)), .val (.int ch), .val (.ref ob), .val (.int may), .val (.int (1 : Int32)), .unset, .unset, .unset, .unset] []))
      refine own_up (S' := T60.setTop (mkF m 99 #[.val (.int c1), .val (.int s1), .val (.int f1), .val (.int (1 : Int32)), .val (.int ch), .val (.ref ob), .val (.int may), .val (.int (1 : Int32)), .unset, .unset, .unset, .unset] [(.ref ob)])) (fun t stp => XS.aload X60.here hx rfl (hb hby at_97) rfl rfl stp) ?_
      refine own_callV X60 hx hZ hown (hw _ (List.mem_of_getElem? (i := 32) rfl)) (hw _ (List.mem_of_getElem? (i := 33) rfl)) (hw _ (List.mem_of_getElem? (i := 35) rfl)) (hw _ (List.mem_of_getElem? (i := 34) rfl)) (hw _ (List.mem_of_getElem? (i := 6) rfl)) (hw _ (List.mem_of_getElem? (i := 36) rfl)) (by decide) rfl (rm3 l Z a0 hw [] ob (own_ln (1 : Int32) (1 : Int32) (0 : Int32) ch) T60.heap n0 Zn61 G60a_60) 0 A48_62 [] [] (hb hby at_99) (lenOf own_pd4 rfl) (by decide) (by decide) (by decide) (by decide) rfl (by rw [hml]; rfl) rfl (by show 2 * 0 + _ ≤ _; exact Nat.le_of_eq rfl) rfl ?_
      intro T63 L63 r63 X63 q63
      obtain ⟨rfl, M63, e63⟩ := q63
      have N63 := Fr.app N60 M63
      show own_Ends p e below s (own_Q0 Z c1 s1 f1 h0 n0) room_1.cells room_1.slots (T63.setTop (mkF m 102 #[.val (.int c1), .val (.int s1), .val (.int f1), .val (.int (1 : Int32)), .val (.int ch), .val (.ref ob), .val (.int may), .val (.int (1 : Int32)), .unset, .unset, .unset, .unset] [(.int (own_ln (1 : Int32) (1 : Int32) (0 : Int32) ch))]))
      obtain ⟨ln, h_ln⟩ : ∃ z : Int32, z = (own_ln (1 : Int32) (1 : Int32) (0 : Int32) ch) := ⟨_, rfl⟩
      rw [← h_ln]
      refine own_up (S' := T63.setTop (mkF m 104 #[.val (.int c1), .val (.int s1), .val (.int f1), .val (.int (1 : Int32)), .val (.int ch), .val (.ref ob), .val (.int may), .val (.int (1 : Int32)), .val (.int ln), .unset, .unset, .unset] [])) (fun t stp => XS.istore X63.here hx rfl (hb hby at_102) rfl (l' := #[.val (.int c1), .val (.int s1), .val (.int f1), .val (.int (1 : Int32)), .val (.int ch), .val (.ref ob), .val (.int may), .val (.int (1 : Int32)), .val (.int ln), .unset, .unset, .unset]) rfl stp) ?_
      have k_ln : ln = (2 : Int32) := by rw [h_ln]; simp [own_ln, own_fd, own_sk, own_en, hc3_1, hc32_54, hc53_59]
      clear h_ln
      subst k_ln
      refine own_up (S' := T63.setTop (mkF m 106 #[.val (.int c1), .val (.int s1), .val (.int f1), .val (.int (1 : Int32)), .val (.int ch), .val (.ref ob), .val (.int may), .val (.int (1 : Int32)), .val (.int (2 : Int32)), .unset, .unset, .unset] [(.ref ob)])) (fun t stp => XS.aload X63.here hx rfl (hb hby at_104) rfl rfl stp) ?_
      refine own_callV X63 hx hZ hown (hw _ (List.mem_of_getElem? (i := 37) rfl)) (hw _ (List.mem_of_getElem? (i := 38) rfl)) (hw _ (List.mem_of_getElem? (i := 40) rfl)) (hw _ (List.mem_of_getElem? (i := 39) rfl)) (hw _ (List.mem_of_getElem? (i := 6) rfl)) (hw _ (List.mem_of_getElem? (i := 41) rfl)) (by decide) e63 (rm4 l Z a0 hw [] ob (own_cl (1 : Int32) (1 : Int32) (0 : Int32) ch) T60.heap n0 Zn61 G60b_60) 0 A48_62 [] [] (hb hby at_106) (lenOf own_pd4 rfl) (by decide) (by decide) (by decide) (by decide) rfl (by rw [hml]; rfl) rfl (by show 2 * 0 + _ ≤ _; exact Nat.le_of_eq rfl) rfl ?_
      intro T64 L64 r64 X64 q64
      obtain ⟨rfl, M64, e64⟩ := q64
      have N64 := Fr.app N63 M64
      show own_Ends p e below s (own_Q0 Z c1 s1 f1 h0 n0) room_1.cells room_1.slots (T64.setTop (mkF m 109 #[.val (.int c1), .val (.int s1), .val (.int f1), .val (.int (1 : Int32)), .val (.int ch), .val (.ref ob), .val (.int may), .val (.int (1 : Int32)), .val (.int (2 : Int32)), .unset, .unset, .unset] [(.int (own_cl (1 : Int32) (1 : Int32) (0 : Int32) ch))]))
      obtain ⟨cl, h_cl⟩ : ∃ z : Int32, z = (own_cl (1 : Int32) (1 : Int32) (0 : Int32) ch) := ⟨_, rfl⟩
      rw [← h_cl]
      refine own_up (S' := T64.setTop (mkF m 111 #[.val (.int c1), .val (.int s1), .val (.int f1), .val (.int (1 : Int32)), .val (.int ch), .val (.ref ob), .val (.int may), .val (.int (1 : Int32)), .val (.int (2 : Int32)), .val (.int cl), .unset, .unset] [])) (fun t stp => XS.istore X64.here hx rfl (hb hby at_109) rfl (l' := #[.val (.int c1), .val (.int s1), .val (.int f1), .val (.int (1 : Int32)), .val (.int ch), .val (.ref ob), .val (.int may), .val (.int (1 : Int32)), .val (.int (2 : Int32)), .val (.int cl), .unset, .unset]) rfl stp) ?_
      have k_cl : cl = (1 : Int32) := by rw [h_cl]; simp [own_cl, own_fd, own_sk, own_en, hc3_1, hc32_54, hc53_59]
      clear h_cl
      subst k_cl
      refine own_up (S' := T64.setTop (mkF m 113 #[.val (.int c1), .val (.int s1), .val (.int f1), .val (.int (1 : Int32)), .val (.int ch), .val (.ref ob), .val (.int may), .val (.int (1 : Int32)), .val (.int (2 : Int32)), .val (.int (1 : Int32)), .unset, .unset] [(.int (2 : Int32))])) (fun t stp => XS.iload X64.here hx rfl (hb hby at_111) rfl stp) ?_
      refine own_up (S' := T64.setTop (mkF m 114 #[.val (.int c1), .val (.int s1), .val (.int f1), .val (.int (1 : Int32)), .val (.int ch), .val (.ref ob), .val (.int may), .val (.int (1 : Int32)), .val (.int (2 : Int32)), .val (.int (1 : Int32)), .unset, .unset] [(.int (2 : Int32)), (.int (2 : Int32))])) (fun t stp => XT.iconstV X64.here hx rfl (2 : Int32) (hb hby at_113) rfl stp) ?_
      have hc114_65 : (2 : Int32) = (2 : Int32) := rfl
      refine own_up (S' := T64.setTop (mkF m 117 #[.val (.int c1), .val (.int s1), .val (.int f1), .val (.int (1 : Int32)), .val (.int ch), .val (.ref ob), .val (.int may), .val (.int (1 : Int32)), .val (.int (2 : Int32)), .val (.int (1 : Int32)), .unset, .unset] [])) (fun t stp => XS.icmpNo X64.here hx rfl (hb hby at_114) rfl (XT.ii_ne_f hc114_65) stp) ?_
      refine own_up (S' := T64.setTop (mkF m 119 #[.val (.int c1), .val (.int s1), .val (.int f1), .val (.int (1 : Int32)), .val (.int ch), .val (.ref ob), .val (.int may), .val (.int (1 : Int32)), .val (.int (2 : Int32)), .val (.int (1 : Int32)), .unset, .unset] [(.int (1 : Int32))])) (fun t stp => XS.iload X64.here hx rfl (hb hby at_117) rfl stp) ?_
      refine own_up (S' := T64.setTop (mkF m 120 #[.val (.int c1), .val (.int s1), .val (.int f1), .val (.int (1 : Int32)), .val (.int ch), .val (.ref ob), .val (.int may), .val (.int (1 : Int32)), .val (.int (2 : Int32)), .val (.int (1 : Int32)), .unset, .unset] [(.int (1 : Int32)), (.int (1 : Int32))])) (fun t stp => XT.iconstV X64.here hx rfl (1 : Int32) (hb hby at_119) rfl stp) ?_
      have hc120_66 : (1 : Int32) = (1 : Int32) := rfl
      refine own_up (S' := T64.setTop (mkF m 123 #[.val (.int c1), .val (.int s1), .val (.int f1), .val (.int (1 : Int32)), .val (.int ch), .val (.ref ob), .val (.int may), .val (.int (1 : Int32)), .val (.int (2 : Int32)), .val (.int (1 : Int32)), .unset, .unset] [])) (fun t stp => XS.icmpNo X64.here hx rfl (hb hby at_120) rfl (XT.ii_ne_f hc120_66) stp) ?_
      refine own_up (S' := T64.setTop (mkF m 124 #[.val (.int c1), .val (.int s1), .val (.int f1), .val (.int (1 : Int32)), .val (.int ch), .val (.ref ob), .val (.int may), .val (.int (1 : Int32)), .val (.int (2 : Int32)), .val (.int (1 : Int32)), .unset, .unset] [(.int (1 : Int32))])) (fun t stp => XT.iconstV X64.here hx rfl (1 : Int32) (hb hby at_123) rfl stp) ?_
      refine own_up (S' := T64.setTop (mkF m 128 #[.val (.int c1), .val (.int s1), .val (.int f1), .val (.int (1 : Int32)), .val (.int ch), .val (.ref ob), .val (.int may), .val (.int (1 : Int32)), .val (.int (2 : Int32)), .val (.int (1 : Int32)), .unset, .unset] [(.int (1 : Int32))])) (fun t stp => XS.goto X64.here hx rfl (pc0 := 124) (pc' := 128) rfl (hb hby at_124) (by decide) (by decide) stp) ?_
      refine own_up (S' := T64.setTop (mkF m 130 #[.val (.int c1), .val (.int s1), .val (.int f1), .val (.int (1 : Int32)), .val (.int ch), .val (.ref ob), .val (.int may), .val (.int (1 : Int32)), .val (.int (2 : Int32)), .val (.int (1 : Int32)), .val (.int (1 : Int32)), .unset] [])) (fun t stp => XS.istore X64.here hx rfl (hb hby at_128) rfl (l' := #[.val (.int c1), .val (.int s1), .val (.int f1), .val (.int (1 : Int32)), .val (.int ch), .val (.ref ob), .val (.int may), .val (.int (1 : Int32)), .val (.int (2 : Int32)), .val (.int (1 : Int32)), .val (.int (1 : Int32)), .unset]) rfl stp) ?_
      refine own_up (S' := T64.setTop (mkF m 132 #[.val (.int c1), .val (.int s1), .val (.int f1), .val (.int (1 : Int32)), .val (.int ch), .val (.ref ob), .val (.int may), .val (.int (1 : Int32)), .val (.int (2 : Int32)), .val (.int (1 : Int32)), .val (.int (1 : Int32)), .unset] [(.int (2 : Int32))])) (fun t stp => XS.iload X64.here hx rfl (hb hby at_130) rfl stp) ?_
      refine own_up (S' := T64.setTop (mkF m 133 #[.val (.int c1), .val (.int s1), .val (.int f1), .val (.int (1 : Int32)), .val (.int ch), .val (.ref ob), .val (.int may), .val (.int (1 : Int32)), .val (.int (2 : Int32)), .val (.int (1 : Int32)), .val (.int (1 : Int32)), .unset] [(.int (1 : Int32)), (.int (2 : Int32))])) (fun t stp => XT.iconstV X64.here hx rfl (1 : Int32) (hb hby at_132) rfl stp) ?_
      have hc133_67 : ¬ ((2 : Int32) = (1 : Int32)) := by decide
      refine own_up (S' := T64.setTop (mkF m 146 #[.val (.int c1), .val (.int s1), .val (.int f1), .val (.int (1 : Int32)), .val (.int ch), .val (.ref ob), .val (.int may), .val (.int (1 : Int32)), .val (.int (2 : Int32)), .val (.int (1 : Int32)), .val (.int (1 : Int32)), .unset] [])) (fun t stp => XS.icmpYes X64.here hx rfl (pc0 := 133) (pc' := 146) rfl (hb hby at_133) rfl (XT.ii_ne_t hc133_67) (by decide) (by decide) stp) ?_
      refine own_up (S' := T64.setTop (mkF m 147 #[.val (.int c1), .val (.int s1), .val (.int f1), .val (.int (1 : Int32)), .val (.int ch), .val (.ref ob), .val (.int may), .val (.int (1 : Int32)), .val (.int (2 : Int32)), .val (.int (1 : Int32)), .val (.int (1 : Int32)), .unset] [(.int (0 : Int32))])) (fun t stp => XT.iconstV X64.here hx rfl (0 : Int32) (hb hby at_146) rfl stp) ?_
      refine own_up (S' := T64.setTop (mkF m 149 #[.val (.int c1), .val (.int s1), .val (.int f1), .val (.int (1 : Int32)), .val (.int ch), .val (.ref ob), .val (.int may), .val (.int (1 : Int32)), .val (.int (2 : Int32)), .val (.int (1 : Int32)), .val (.int (1 : Int32)), .val (.int (0 : Int32))] [])) (fun t stp => XS.istore X64.here hx rfl (hb hby at_147) rfl (l' := #[.val (.int c1), .val (.int s1), .val (.int f1), .val (.int (1 : Int32)), .val (.int ch), .val (.ref ob), .val (.int may), .val (.int (1 : Int32)), .val (.int (2 : Int32)), .val (.int (1 : Int32)), .val (.int (1 : Int32)), .val (.int (0 : Int32))]) rfl stp) ?_
      refine own_up (S' := T64.setTop (mkF m 151 #[.val (.int c1), .val (.int s1), .val (.int f1), .val (.int (1 : Int32)), .val (.int ch), .val (.ref ob), .val (.int may), .val (.int (1 : Int32)), .val (.int (2 : Int32)), .val (.int (1 : Int32)), .val (.int (1 : Int32)), .val (.int (0 : Int32))] [(.int may)])) (fun t stp => XS.iload X64.here hx rfl (hb hby at_149) rfl stp) ?_
      refine own_up (S' := T64.setTop (mkF m 153 #[.val (.int c1), .val (.int s1), .val (.int f1), .val (.int (1 : Int32)), .val (.int ch), .val (.ref ob), .val (.int may), .val (.int (1 : Int32)), .val (.int (2 : Int32)), .val (.int (1 : Int32)), .val (.int (1 : Int32)), .val (.int (0 : Int32))] [(.int (1 : Int32)), (.int may)])) (fun t stp => XS.iload X64.here hx rfl (hb hby at_151) rfl stp) ?_
      have hc153_68 : may = (1 : Int32) := by rw [h_may]; exact (own_may_1 (by omega)).symm
      have ihc153_68 : may.toInt = 1 := own_ieq hc153_68
      refine own_up (S' := T64.setTop (mkF m 156 #[.val (.int c1), .val (.int s1), .val (.int f1), .val (.int (1 : Int32)), .val (.int ch), .val (.ref ob), .val (.int may), .val (.int (1 : Int32)), .val (.int (2 : Int32)), .val (.int (1 : Int32)), .val (.int (1 : Int32)), .val (.int (0 : Int32))] [])) (fun t stp => XS.icmpNo X64.here hx rfl (hb hby at_153) rfl (XT.ii_ne_f hc153_68) stp) ?_
      refine own_up (S' := T64.setTop (mkF m 158 #[.val (.int c1), .val (.int s1), .val (.int f1), .val (.int (1 : Int32)), .val (.int ch), .val (.ref ob), .val (.int may), .val (.int (1 : Int32)), .val (.int (2 : Int32)), .val (.int (1 : Int32)), .val (.int (1 : Int32)), .val (.int (0 : Int32))] [(.int may)])) (fun t stp => XS.iload X64.here hx rfl (hb hby at_156) rfl stp) ?_
      have hc158_69 : ¬ (may = 0) := by rw [hc153_68]; decide
      have ihc158_69 : may.toInt ≠ 0 := own_ine hc158_69
      refine own_up (S' := T64.setTop (mkF m 161 #[.val (.int c1), .val (.int s1), .val (.int f1), .val (.int (1 : Int32)), .val (.int ch), .val (.ref ob), .val (.int may), .val (.int (1 : Int32)), .val (.int (2 : Int32)), .val (.int (1 : Int32)), .val (.int (1 : Int32)), .val (.int (0 : Int32))] [])) (fun t stp => XS.ifNo X64.here hx rfl (hb hby at_158) rfl (XT.i0_eq_f hc158_69) stp) ?_
      refine own_up (S' := T64.setTop (mkF m 163 #[.val (.int c1), .val (.int s1), .val (.int f1), .val (.int (1 : Int32)), .val (.int ch), .val (.ref ob), .val (.int may), .val (.int (1 : Int32)), .val (.int (2 : Int32)), .val (.int (1 : Int32)), .val (.int (1 : Int32)), .val (.int (0 : Int32))] [(.int (1 : Int32))])) (fun t stp => XS.iload X64.here hx rfl (hb hby at_161) rfl stp) ?_
      have hc163_70 : ¬ ((1 : Int32) = 0) := hc32_54
      refine own_up (S' := T64.setTop (mkF m 166 #[.val (.int c1), .val (.int s1), .val (.int f1), .val (.int (1 : Int32)), .val (.int ch), .val (.ref ob), .val (.int may), .val (.int (1 : Int32)), .val (.int (2 : Int32)), .val (.int (1 : Int32)), .val (.int (1 : Int32)), .val (.int (0 : Int32))] [])) (fun t stp => XS.ifNo X64.here hx rfl (hb hby at_163) rfl (XT.i0_eq_f hc163_70) stp) ?_
      refine own_up (S' := T64.setTop (mkF m 174 #[.val (.int c1), .val (.int s1), .val (.int f1), .val (.int (1 : Int32)), .val (.int ch), .val (.ref ob), .val (.int may), .val (.int (1 : Int32)), .val (.int (2 : Int32)), .val (.int (1 : Int32)), .val (.int (1 : Int32)), .val (.int (0 : Int32))] [])) (fun t stp => XS.goto X64.here hx rfl (pc0 := 166) (pc' := 174) rfl (hb hby at_166) (by decide) (by decide) stp) ?_
      refine own_up (S' := T64.setTop (mkF m 175 #[.val (.int c1), .val (.int s1), .val (.int f1), .val (.int (1 : Int32)), .val (.int ch), .val (.ref ob), .val (.int may), .val (.int (1 : Int32)), .val (.int (2 : Int32)), .val (.int (1 : Int32)), .val (.int (1 : Int32)), .val (.int (0 : Int32))] [(.int (1 : Int32))])) (fun t stp => XT.iconstV X64.here hx rfl (1 : Int32) (hb hby at_174) rfl stp) ?_
      refine own_up (S' := T64.setTop (mkF m 179 #[.val (.int c1), .val (.int s1), .val (.int f1), .val (.int (1 : Int32)), .val (.int ch), .val (.ref ob), .val (.int may), .val (.int (1 : Int32)), .val (.int (2 : Int32)), .val (.int (1 : Int32)), .val (.int (1 : Int32)), .val (.int (0 : Int32))] [(.int (1 : Int32))])) (fun t stp => XS.goto X64.here hx rfl (pc0 := 175) (pc' := 179) rfl (hb hby at_175) (by decide) (by decide) stp) ?_
      refine own_retN X64 hx hlk (t := .boolean) hret (by simp) (z' := (1 : Int32)) rfl (hb hby at_179) (by decide) (by decide) ?_
      show own_Q0 Z c1 s1 f1 h0 n0 _ T64.heap _
      rw [e64]
      exact ⟨rfl, N64⟩
    · have ihc53_59 : ch.toInt ≠ 10 := own_ine hc53_59
      refine own_up (S' := T58.setTop (mkF m 56 #[.val (.int c1), .val (.int s1), .val (.int f1), .val (.int (1 : Int32)), .val (.int ch), .val (.ref ob), .val (.int may), .unset, .unset, .unset, .unset, .unset] [])) (fun t stp => XS.icmpNo X58.here hx rfl (hb hby at_53) rfl (XT.ii_eq_f hc53_59) stp) ?_
      refine own_up (S' := T58.setTop (mkF m 58 #[.val (.int c1), .val (.int s1), .val (.int f1), .val (.int (1 : Int32)), .val (.int ch), .val (.ref ob), .val (.int may), .unset, .unset, .unset, .unset, .unset] [(.int ch)])) (fun t stp => XS.iload X58.here hx rfl (hb hby at_56) rfl stp) ?_
      refine own_up (S' := T58.setTop (mkF m 60 #[.val (.int c1), .val (.int s1), .val (.int f1), .val (.int (1 : Int32)), .val (.int ch), .val (.ref ob), .val (.int may), .unset, .unset, .unset, .unset, .unset] [(.int (13 : Int32)), (.int ch)])) (fun t stp => XT.bipushV X58.here hx rfl (13 : Int32) (hb hby at_58) rfl stp) ?_
      by_cases hc60_71 : ch = (13 : Int32)
      · have ihc60_71 : ch.toInt = 13 := own_ieq hc60_71
        refine own_up (S' := T58.setTop (mkF m 83 #[.val (.int c1), .val (.int s1), .val (.int f1), .val (.int (1 : Int32)), .val (.int ch), .val (.ref ob), .val (.int may), .unset, .unset, .unset, .unset, .unset] [])) (fun t stp => XS.icmpYes X58.here hx rfl (pc0 := 60) (pc' := 83) rfl (hb hby at_60) rfl (XT.ii_eq_t hc60_71) (by decide) (by decide) stp) ?_
        refine own_up (S' := T58.setTop (mkF m 84 #[.val (.int c1), .val (.int s1), .val (.int f1), .val (.int (1 : Int32)), .val (.int ch), .val (.ref ob), .val (.int may), .unset, .unset, .unset, .unset, .unset] [(.int (1 : Int32))])) (fun t stp => XT.iconstV X58.here hx rfl (1 : Int32) (hb hby at_83) rfl stp) ?_
        refine own_up (S' := T58.setTop (mkF m 88 #[.val (.int c1), .val (.int s1), .val (.int f1), .val (.int (1 : Int32)), .val (.int ch), .val (.ref ob), .val (.int may), .unset, .unset, .unset, .unset, .unset] [(.int (1 : Int32))])) (fun t stp => XS.goto X58.here hx rfl (pc0 := 84) (pc' := 88) rfl (hb hby at_84) (by decide) (by decide) stp) ?_
        refine own_up (S' := T58.setTop (mkF m 90 #[.val (.int c1), .val (.int s1), .val (.int f1), .val (.int (1 : Int32)), .val (.int ch), .val (.ref ob), .val (.int may), .val (.int (1 : Int32)), .unset, .unset, .unset, .unset] [])) (fun t stp => XS.istore X58.here hx rfl (hb hby at_88) rfl (l' := #[.val (.int c1), .val (.int s1), .val (.int f1), .val (.int (1 : Int32)), .val (.int ch), .val (.ref ob), .val (.int may), .val (.int (1 : Int32)), .unset, .unset, .unset, .unset]) rfl stp) ?_
        refine own_up (S' := T58.setTop (mkF m 92 #[.val (.int c1), .val (.int s1), .val (.int f1), .val (.int (1 : Int32)), .val (.int ch), .val (.ref ob), .val (.int may), .val (.int (1 : Int32)), .unset, .unset, .unset, .unset] [(.ref ob)])) (fun t stp => XS.aload X58.here hx rfl (hb hby at_90) rfl rfl stp) ?_
        refine own_up (S' := T58.setTop (mkF m 94 #[.val (.int c1), .val (.int s1), .val (.int f1), .val (.int (1 : Int32)), .val (.int ch), .val (.ref ob), .val (.int may), .val (.int (1 : Int32)), .unset, .unset, .unset, .unset] [(.int ch), (.ref ob)])) (fun t stp => XS.iload X58.here hx rfl (hb hby at_92) rfl stp) ?_
        refine own_callV X58 hx hZ hown (hw _ (List.mem_of_getElem? (i := 24) rfl)) (hw _ (List.mem_of_getElem? (i := 25) rfl)) (hw _ (List.mem_of_getElem? (i := 27) rfl)) (hw _ (List.mem_of_getElem? (i := 26) rfl)) (hw _ (List.mem_of_getElem? (i := 6) rfl)) (hw _ (List.mem_of_getElem? (i := 28) rfl)) (by decide) e58 (rm5 l Z a0 hw [] ob ch (1 : Int32) (1 : Int32) (1 : Int32) (0 : Int32) T55.heap n0 Zn56 G55a_55 G55b_55 G55c_55 G55d_55 A48_57 g_ob) 0 A48_57 [(.int ch)] [] (hb hby at_94) (lenOf own_pd3 rfl) (by decide) (by decide) (by decide) (by decide) rfl (by rw [hml]; rfl) rfl (by show 2 * 0 + _ ≤ _; exact Nat.le_of_eq rfl) rfl ?_
        intro T72 L72 r72 X72 q72
        obtain ⟨rfl, M72, K72, G72a_72, G72b_72, G72c_72, G72d_72⟩ := q72
        have N72 := Fr.app N58 M72
        have Zn73 := Nat.le_trans Zn56 K72.1
        have A48_74 := A48_57.keep K72
        show own_Ends p e below s (own_Q0 Z c1 s1 f1 h0 n0) room_1.cells room_1.slots (T72.setTop (mkF m 97 #[.val (.int c1), .val (.int s1), .val (.int f1), .val (.int (1 : Int32)), .val (.int ch), .val (.ref ob), .val (.int may), .val (.int (1 : Int32)), .unset, .unset, .unset, .unset] []))
        refine own_up (S' := T72.setTop (mkF m 99 #[.val (.int c1), .val (.int s1), .val (.int f1), .val (.int (1 : Int32)), .val (.int ch), .val (.ref ob), .val (.int may), .val (.int (1 : Int32)), .unset, .unset, .unset, .unset] [(.ref ob)])) (fun t stp => XS.aload X72.here hx rfl (hb hby at_97) rfl rfl stp) ?_
        refine own_callV X72 hx hZ hown (hw _ (List.mem_of_getElem? (i := 32) rfl)) (hw _ (List.mem_of_getElem? (i := 33) rfl)) (hw _ (List.mem_of_getElem? (i := 35) rfl)) (hw _ (List.mem_of_getElem? (i := 34) rfl)) (hw _ (List.mem_of_getElem? (i := 6) rfl)) (hw _ (List.mem_of_getElem? (i := 36) rfl)) (by decide) rfl (rm3 l Z a0 hw [] ob (own_ln (1 : Int32) (1 : Int32) (0 : Int32) ch) T72.heap n0 Zn73 G72a_72) 0 A48_74 [] [] (hb hby at_99) (lenOf own_pd4 rfl) (by decide) (by decide) (by decide) (by decide) rfl (by rw [hml]; rfl) rfl (by show 2 * 0 + _ ≤ _; exact Nat.le_of_eq rfl) rfl ?_
        intro T75 L75 r75 X75 q75
        obtain ⟨rfl, M75, e75⟩ := q75
        have N75 := Fr.app N72 M75
        show own_Ends p e below s (own_Q0 Z c1 s1 f1 h0 n0) room_1.cells room_1.slots (T75.setTop (mkF m 102 #[.val (.int c1), .val (.int s1), .val (.int f1), .val (.int (1 : Int32)), .val (.int ch), .val (.ref ob), .val (.int may), .val (.int (1 : Int32)), .unset, .unset, .unset, .unset] [(.int (own_ln (1 : Int32) (1 : Int32) (0 : Int32) ch))]))
        obtain ⟨ln, h_ln⟩ : ∃ z : Int32, z = (own_ln (1 : Int32) (1 : Int32) (0 : Int32) ch) := ⟨_, rfl⟩
        rw [← h_ln]
        refine own_up (S' := T75.setTop (mkF m 104 #[.val (.int c1), .val (.int s1), .val (.int f1), .val (.int (1 : Int32)), .val (.int ch), .val (.ref ob), .val (.int may), .val (.int (1 : Int32)), .val (.int ln), .unset, .unset, .unset] [])) (fun t stp => XS.istore X75.here hx rfl (hb hby at_102) rfl (l' := #[.val (.int c1), .val (.int s1), .val (.int f1), .val (.int (1 : Int32)), .val (.int ch), .val (.ref ob), .val (.int may), .val (.int (1 : Int32)), .val (.int ln), .unset, .unset, .unset]) rfl stp) ?_
        have k_ln : ln = (2 : Int32) := by rw [h_ln]; simp [own_ln, own_fd, own_sk, own_en, hc3_1, hc32_54, hc53_59, hc60_71]
        clear h_ln
        subst k_ln
        refine own_up (S' := T75.setTop (mkF m 106 #[.val (.int c1), .val (.int s1), .val (.int f1), .val (.int (1 : Int32)), .val (.int ch), .val (.ref ob), .val (.int may), .val (.int (1 : Int32)), .val (.int (2 : Int32)), .unset, .unset, .unset] [(.ref ob)])) (fun t stp => XS.aload X75.here hx rfl (hb hby at_104) rfl rfl stp) ?_
        refine own_callV X75 hx hZ hown (hw _ (List.mem_of_getElem? (i := 37) rfl)) (hw _ (List.mem_of_getElem? (i := 38) rfl)) (hw _ (List.mem_of_getElem? (i := 40) rfl)) (hw _ (List.mem_of_getElem? (i := 39) rfl)) (hw _ (List.mem_of_getElem? (i := 6) rfl)) (hw _ (List.mem_of_getElem? (i := 41) rfl)) (by decide) e75 (rm4 l Z a0 hw [] ob (own_cl (1 : Int32) (1 : Int32) (0 : Int32) ch) T72.heap n0 Zn73 G72b_72) 0 A48_74 [] [] (hb hby at_106) (lenOf own_pd4 rfl) (by decide) (by decide) (by decide) (by decide) rfl (by rw [hml]; rfl) rfl (by show 2 * 0 + _ ≤ _; exact Nat.le_of_eq rfl) rfl ?_
        intro T76 L76 r76 X76 q76
        obtain ⟨rfl, M76, e76⟩ := q76
        have N76 := Fr.app N75 M76
        show own_Ends p e below s (own_Q0 Z c1 s1 f1 h0 n0) room_1.cells room_1.slots (T76.setTop (mkF m 109 #[.val (.int c1), .val (.int s1), .val (.int f1), .val (.int (1 : Int32)), .val (.int ch), .val (.ref ob), .val (.int may), .val (.int (1 : Int32)), .val (.int (2 : Int32)), .unset, .unset, .unset] [(.int (own_cl (1 : Int32) (1 : Int32) (0 : Int32) ch))]))
        obtain ⟨cl, h_cl⟩ : ∃ z : Int32, z = (own_cl (1 : Int32) (1 : Int32) (0 : Int32) ch) := ⟨_, rfl⟩
        rw [← h_cl]
        refine own_up (S' := T76.setTop (mkF m 111 #[.val (.int c1), .val (.int s1), .val (.int f1), .val (.int (1 : Int32)), .val (.int ch), .val (.ref ob), .val (.int may), .val (.int (1 : Int32)), .val (.int (2 : Int32)), .val (.int cl), .unset, .unset] [])) (fun t stp => XS.istore X76.here hx rfl (hb hby at_109) rfl (l' := #[.val (.int c1), .val (.int s1), .val (.int f1), .val (.int (1 : Int32)), .val (.int ch), .val (.ref ob), .val (.int may), .val (.int (1 : Int32)), .val (.int (2 : Int32)), .val (.int cl), .unset, .unset]) rfl stp) ?_
        have k_cl : cl = (1 : Int32) := by rw [h_cl]; simp [own_cl, own_fd, own_sk, own_en, hc3_1, hc32_54, hc53_59, hc60_71]
        clear h_cl
        subst k_cl
        refine own_up (S' := T76.setTop (mkF m 113 #[.val (.int c1), .val (.int s1), .val (.int f1), .val (.int (1 : Int32)), .val (.int ch), .val (.ref ob), .val (.int may), .val (.int (1 : Int32)), .val (.int (2 : Int32)), .val (.int (1 : Int32)), .unset, .unset] [(.int (2 : Int32))])) (fun t stp => XS.iload X76.here hx rfl (hb hby at_111) rfl stp) ?_
        refine own_up (S' := T76.setTop (mkF m 114 #[.val (.int c1), .val (.int s1), .val (.int f1), .val (.int (1 : Int32)), .val (.int ch), .val (.ref ob), .val (.int may), .val (.int (1 : Int32)), .val (.int (2 : Int32)), .val (.int (1 : Int32)), .unset, .unset] [(.int (2 : Int32)), (.int (2 : Int32))])) (fun t stp => XT.iconstV X76.here hx rfl (2 : Int32) (hb hby at_113) rfl stp) ?_
        have hc114_77 : (2 : Int32) = (2 : Int32) := rfl
        refine own_up (S' := T76.setTop (mkF m 117 #[.val (.int c1), .val (.int s1), .val (.int f1), .val (.int (1 : Int32)), .val (.int ch), .val (.ref ob), .val (.int may), .val (.int (1 : Int32)), .val (.int (2 : Int32)), .val (.int (1 : Int32)), .unset, .unset] [])) (fun t stp => XS.icmpNo X76.here hx rfl (hb hby at_114) rfl (XT.ii_ne_f hc114_77) stp) ?_
        refine own_up (S' := T76.setTop (mkF m 119 #[.val (.int c1), .val (.int s1), .val (.int f1), .val (.int (1 : Int32)), .val (.int ch), .val (.ref ob), .val (.int may), .val (.int (1 : Int32)), .val (.int (2 : Int32)), .val (.int (1 : Int32)), .unset, .unset] [(.int (1 : Int32))])) (fun t stp => XS.iload X76.here hx rfl (hb hby at_117) rfl stp) ?_
        refine own_up (S' := T76.setTop (mkF m 120 #[.val (.int c1), .val (.int s1), .val (.int f1), .val (.int (1 : Int32)), .val (.int ch), .val (.ref ob), .val (.int may), .val (.int (1 : Int32)), .val (.int (2 : Int32)), .val (.int (1 : Int32)), .unset, .unset] [(.int (1 : Int32)), (.int (1 : Int32))])) (fun t stp => XT.iconstV X76.here hx rfl (1 : Int32) (hb hby at_119) rfl stp) ?_
        have hc120_78 : (1 : Int32) = (1 : Int32) := rfl
        refine own_up (S' := T76.setTop (mkF m 123 #[.val (.int c1), .val (.int s1), .val (.int f1), .val (.int (1 : Int32)), .val (.int ch), .val (.ref ob), .val (.int may), .val (.int (1 : Int32)), .val (.int (2 : Int32)), .val (.int (1 : Int32)), .unset, .unset] [])) (fun t stp => XS.icmpNo X76.here hx rfl (hb hby at_120) rfl (XT.ii_ne_f hc120_78) stp) ?_
        refine own_up (S' := T76.setTop (mkF m 124 #[.val (.int c1), .val (.int s1), .val (.int f1), .val (.int (1 : Int32)), .val (.int ch), .val (.ref ob), .val (.int may), .val (.int (1 : Int32)), .val (.int (2 : Int32)), .val (.int (1 : Int32)), .unset, .unset] [(.int (1 : Int32))])) (fun t stp => XT.iconstV X76.here hx rfl (1 : Int32) (hb hby at_123) rfl stp) ?_
        refine own_up (S' := T76.setTop (mkF m 128 #[.val (.int c1), .val (.int s1), .val (.int f1), .val (.int (1 : Int32)), .val (.int ch), .val (.ref ob), .val (.int may), .val (.int (1 : Int32)), .val (.int (2 : Int32)), .val (.int (1 : Int32)), .unset, .unset] [(.int (1 : Int32))])) (fun t stp => XS.goto X76.here hx rfl (pc0 := 124) (pc' := 128) rfl (hb hby at_124) (by decide) (by decide) stp) ?_
        refine own_up (S' := T76.setTop (mkF m 130 #[.val (.int c1), .val (.int s1), .val (.int f1), .val (.int (1 : Int32)), .val (.int ch), .val (.ref ob), .val (.int may), .val (.int (1 : Int32)), .val (.int (2 : Int32)), .val (.int (1 : Int32)), .val (.int (1 : Int32)), .unset] [])) (fun t stp => XS.istore X76.here hx rfl (hb hby at_128) rfl (l' := #[.val (.int c1), .val (.int s1), .val (.int f1), .val (.int (1 : Int32)), .val (.int ch), .val (.ref ob), .val (.int may), .val (.int (1 : Int32)), .val (.int (2 : Int32)), .val (.int (1 : Int32)), .val (.int (1 : Int32)), .unset]) rfl stp) ?_
        refine own_up (S' := T76.setTop (mkF m 132 #[.val (.int c1), .val (.int s1), .val (.int f1), .val (.int (1 : Int32)), .val (.int ch), .val (.ref ob), .val (.int may), .val (.int (1 : Int32)), .val (.int (2 : Int32)), .val (.int (1 : Int32)), .val (.int (1 : Int32)), .unset] [(.int (2 : Int32))])) (fun t stp => XS.iload X76.here hx rfl (hb hby at_130) rfl stp) ?_
        refine own_up (S' := T76.setTop (mkF m 133 #[.val (.int c1), .val (.int s1), .val (.int f1), .val (.int (1 : Int32)), .val (.int ch), .val (.ref ob), .val (.int may), .val (.int (1 : Int32)), .val (.int (2 : Int32)), .val (.int (1 : Int32)), .val (.int (1 : Int32)), .unset] [(.int (1 : Int32)), (.int (2 : Int32))])) (fun t stp => XT.iconstV X76.here hx rfl (1 : Int32) (hb hby at_132) rfl stp) ?_
        have hc133_79 : ¬ ((2 : Int32) = (1 : Int32)) := by decide
        refine own_up (S' := T76.setTop (mkF m 146 #[.val (.int c1), .val (.int s1), .val (.int f1), .val (.int (1 : Int32)), .val (.int ch), .val (.ref ob), .val (.int may), .val (.int (1 : Int32)), .val (.int (2 : Int32)), .val (.int (1 : Int32)), .val (.int (1 : Int32)), .unset] [])) (fun t stp => XS.icmpYes X76.here hx rfl (pc0 := 133) (pc' := 146) rfl (hb hby at_133) rfl (XT.ii_ne_t hc133_79) (by decide) (by decide) stp) ?_
        refine own_up (S' := T76.setTop (mkF m 147 #[.val (.int c1), .val (.int s1), .val (.int f1), .val (.int (1 : Int32)), .val (.int ch), .val (.ref ob), .val (.int may), .val (.int (1 : Int32)), .val (.int (2 : Int32)), .val (.int (1 : Int32)), .val (.int (1 : Int32)), .unset] [(.int (0 : Int32))])) (fun t stp => XT.iconstV X76.here hx rfl (0 : Int32) (hb hby at_146) rfl stp) ?_
        refine own_up (S' := T76.setTop (mkF m 149 #[.val (.int c1), .val (.int s1), .val (.int f1), .val (.int (1 : Int32)), .val (.int ch), .val (.ref ob), .val (.int may), .val (.int (1 : Int32)), .val (.int (2 : Int32)), .val (.int (1 : Int32)), .val (.int (1 : Int32)), .val (.int (0 : Int32))] [])) (fun t stp => XS.istore X76.here hx rfl (hb hby at_147) rfl (l' := #[.val (.int c1), .val (.int s1), .val (.int f1), .val (.int (1 : Int32)), .val (.int ch), .val (.ref ob), .val (.int may), .val (.int (1 : Int32)), .val (.int (2 : Int32)), .val (.int (1 : Int32)), .val (.int (1 : Int32)), .val (.int (0 : Int32))]) rfl stp) ?_
        refine own_up (S' := T76.setTop (mkF m 151 #[.val (.int c1), .val (.int s1), .val (.int f1), .val (.int (1 : Int32)), .val (.int ch), .val (.ref ob), .val (.int may), .val (.int (1 : Int32)), .val (.int (2 : Int32)), .val (.int (1 : Int32)), .val (.int (1 : Int32)), .val (.int (0 : Int32))] [(.int may)])) (fun t stp => XS.iload X76.here hx rfl (hb hby at_149) rfl stp) ?_
        refine own_up (S' := T76.setTop (mkF m 153 #[.val (.int c1), .val (.int s1), .val (.int f1), .val (.int (1 : Int32)), .val (.int ch), .val (.ref ob), .val (.int may), .val (.int (1 : Int32)), .val (.int (2 : Int32)), .val (.int (1 : Int32)), .val (.int (1 : Int32)), .val (.int (0 : Int32))] [(.int (1 : Int32)), (.int may)])) (fun t stp => XS.iload X76.here hx rfl (hb hby at_151) rfl stp) ?_
        have hc153_80 : may = (1 : Int32) := by rw [h_may]; exact (own_may_1 (by omega)).symm
        have ihc153_80 : may.toInt = 1 := own_ieq hc153_80
        refine own_up (S' := T76.setTop (mkF m 156 #[.val (.int c1), .val (.int s1), .val (.int f1), .val (.int (1 : Int32)), .val (.int ch), .val (.ref ob), .val (.int may), .val (.int (1 : Int32)), .val (.int (2 : Int32)), .val (.int (1 : Int32)), .val (.int (1 : Int32)), .val (.int (0 : Int32))] [])) (fun t stp => XS.icmpNo X76.here hx rfl (hb hby at_153) rfl (XT.ii_ne_f hc153_80) stp) ?_
        refine own_up (S' := T76.setTop (mkF m 158 #[.val (.int c1), .val (.int s1), .val (.int f1), .val (.int (1 : Int32)), .val (.int ch), .val (.ref ob), .val (.int may), .val (.int (1 : Int32)), .val (.int (2 : Int32)), .val (.int (1 : Int32)), .val (.int (1 : Int32)), .val (.int (0 : Int32))] [(.int may)])) (fun t stp => XS.iload X76.here hx rfl (hb hby at_156) rfl stp) ?_
        have hc158_81 : ¬ (may = 0) := by rw [hc153_80]; decide
        have ihc158_81 : may.toInt ≠ 0 := own_ine hc158_81
        refine own_up (S' := T76.setTop (mkF m 161 #[.val (.int c1), .val (.int s1), .val (.int f1), .val (.int (1 : Int32)), .val (.int ch), .val (.ref ob), .val (.int may), .val (.int (1 : Int32)), .val (.int (2 : Int32)), .val (.int (1 : Int32)), .val (.int (1 : Int32)), .val (.int (0 : Int32))] [])) (fun t stp => XS.ifNo X76.here hx rfl (hb hby at_158) rfl (XT.i0_eq_f hc158_81) stp) ?_
        refine own_up (S' := T76.setTop (mkF m 163 #[.val (.int c1), .val (.int s1), .val (.int f1), .val (.int (1 : Int32)), .val (.int ch), .val (.ref ob), .val (.int may), .val (.int (1 : Int32)), .val (.int (2 : Int32)), .val (.int (1 : Int32)), .val (.int (1 : Int32)), .val (.int (0 : Int32))] [(.int (1 : Int32))])) (fun t stp => XS.iload X76.here hx rfl (hb hby at_161) rfl stp) ?_
        have hc163_82 : ¬ ((1 : Int32) = 0) := hc32_54
        refine own_up (S' := T76.setTop (mkF m 166 #[.val (.int c1), .val (.int s1), .val (.int f1), .val (.int (1 : Int32)), .val (.int ch), .val (.ref ob), .val (.int may), .val (.int (1 : Int32)), .val (.int (2 : Int32)), .val (.int (1 : Int32)), .val (.int (1 : Int32)), .val (.int (0 : Int32))] [])) (fun t stp => XS.ifNo X76.here hx rfl (hb hby at_163) rfl (XT.i0_eq_f hc163_82) stp) ?_
        refine own_up (S' := T76.setTop (mkF m 174 #[.val (.int c1), .val (.int s1), .val (.int f1), .val (.int (1 : Int32)), .val (.int ch), .val (.ref ob), .val (.int may), .val (.int (1 : Int32)), .val (.int (2 : Int32)), .val (.int (1 : Int32)), .val (.int (1 : Int32)), .val (.int (0 : Int32))] [])) (fun t stp => XS.goto X76.here hx rfl (pc0 := 166) (pc' := 174) rfl (hb hby at_166) (by decide) (by decide) stp) ?_
        refine own_up (S' := T76.setTop (mkF m 175 #[.val (.int c1), .val (.int s1), .val (.int f1), .val (.int (1 : Int32)), .val (.int ch), .val (.ref ob), .val (.int may), .val (.int (1 : Int32)), .val (.int (2 : Int32)), .val (.int (1 : Int32)), .val (.int (1 : Int32)), .val (.int (0 : Int32))] [(.int (1 : Int32))])) (fun t stp => XT.iconstV X76.here hx rfl (1 : Int32) (hb hby at_174) rfl stp) ?_
        refine own_up (S' := T76.setTop (mkF m 179 #[.val (.int c1), .val (.int s1), .val (.int f1), .val (.int (1 : Int32)), .val (.int ch), .val (.ref ob), .val (.int may), .val (.int (1 : Int32)), .val (.int (2 : Int32)), .val (.int (1 : Int32)), .val (.int (1 : Int32)), .val (.int (0 : Int32))] [(.int (1 : Int32))])) (fun t stp => XS.goto X76.here hx rfl (pc0 := 175) (pc' := 179) rfl (hb hby at_175) (by decide) (by decide) stp) ?_
        refine own_retN X76 hx hlk (t := .boolean) hret (by simp) (z' := (1 : Int32)) rfl (hb hby at_179) (by decide) (by decide) ?_
        show own_Q0 Z c1 s1 f1 h0 n0 _ T76.heap _
        rw [e76]
        exact ⟨rfl, N76⟩
      · have ihc60_71 : ch.toInt ≠ 13 := own_ine hc60_71
        refine own_up (S' := T58.setTop (mkF m 63 #[.val (.int c1), .val (.int s1), .val (.int f1), .val (.int (1 : Int32)), .val (.int ch), .val (.ref ob), .val (.int may), .unset, .unset, .unset, .unset, .unset] [])) (fun t stp => XS.icmpNo X58.here hx rfl (hb hby at_60) rfl (XT.ii_eq_f hc60_71) stp) ?_
        refine own_up (S' := T58.setTop (mkF m 64 #[.val (.int c1), .val (.int s1), .val (.int f1), .val (.int (1 : Int32)), .val (.int ch), .val (.ref ob), .val (.int may), .unset, .unset, .unset, .unset, .unset] [(.int (1 : Int32))])) (fun t stp => XS.iloadN X58.here hx rfl (hb hby at_63) rfl stp) ?_
        have hc64_83 : ¬ ((1 : Int32) = 0) := hc32_54
        refine own_up (S' := T58.setTop (mkF m 67 #[.val (.int c1), .val (.int s1), .val (.int f1), .val (.int (1 : Int32)), .val (.int ch), .val (.ref ob), .val (.int may), .unset, .unset, .unset, .unset, .unset] [])) (fun t stp => XS.ifNo X58.here hx rfl (hb hby at_64) rfl (XT.i0_eq_f hc64_83) stp) ?_
        refine own_up (S' := T58.setTop (mkF m 69 #[.val (.int c1), .val (.int s1), .val (.int f1), .val (.int (1 : Int32)), .val (.int ch), .val (.ref ob), .val (.int may), .unset, .unset, .unset, .unset, .unset] [(.int ch)])) (fun t stp => XS.iload X58.here hx rfl (hb hby at_67) rfl stp) ?_
        refine own_up (S' := T58.setTop (mkF m 72 #[.val (.int c1), .val (.int s1), .val (.int f1), .val (.int (1 : Int32)), .val (.int ch), .val (.ref ob), .val (.int may), .unset, .unset, .unset, .unset, .unset] [(.int (133 : Int32)), (.int ch)])) (fun t stp => XT.sipushV X58.here hx rfl (133 : Int32) (hb hby at_69) rfl stp) ?_
        by_cases hc72_84 : ch = (133 : Int32)
        · have ihc72_84 : ch.toInt = 133 := own_ieq hc72_84
          refine own_up (S' := T58.setTop (mkF m 83 #[.val (.int c1), .val (.int s1), .val (.int f1), .val (.int (1 : Int32)), .val (.int ch), .val (.ref ob), .val (.int may), .unset, .unset, .unset, .unset, .unset] [])) (fun t stp => XS.icmpYes X58.here hx rfl (pc0 := 72) (pc' := 83) rfl (hb hby at_72) rfl (XT.ii_eq_t hc72_84) (by decide) (by decide) stp) ?_
          refine own_up (S' := T58.setTop (mkF m 84 #[.val (.int c1), .val (.int s1), .val (.int f1), .val (.int (1 : Int32)), .val (.int ch), .val (.ref ob), .val (.int may), .unset, .unset, .unset, .unset, .unset] [(.int (1 : Int32))])) (fun t stp => XT.iconstV X58.here hx rfl (1 : Int32) (hb hby at_83) rfl stp) ?_
          refine own_up (S' := T58.setTop (mkF m 88 #[.val (.int c1), .val (.int s1), .val (.int f1), .val (.int (1 : Int32)), .val (.int ch), .val (.ref ob), .val (.int may), .unset, .unset, .unset, .unset, .unset] [(.int (1 : Int32))])) (fun t stp => XS.goto X58.here hx rfl (pc0 := 84) (pc' := 88) rfl (hb hby at_84) (by decide) (by decide) stp) ?_
          refine own_up (S' := T58.setTop (mkF m 90 #[.val (.int c1), .val (.int s1), .val (.int f1), .val (.int (1 : Int32)), .val (.int ch), .val (.ref ob), .val (.int may), .val (.int (1 : Int32)), .unset, .unset, .unset, .unset] [])) (fun t stp => XS.istore X58.here hx rfl (hb hby at_88) rfl (l' := #[.val (.int c1), .val (.int s1), .val (.int f1), .val (.int (1 : Int32)), .val (.int ch), .val (.ref ob), .val (.int may), .val (.int (1 : Int32)), .unset, .unset, .unset, .unset]) rfl stp) ?_
          refine own_up (S' := T58.setTop (mkF m 92 #[.val (.int c1), .val (.int s1), .val (.int f1), .val (.int (1 : Int32)), .val (.int ch), .val (.ref ob), .val (.int may), .val (.int (1 : Int32)), .unset, .unset, .unset, .unset] [(.ref ob)])) (fun t stp => XS.aload X58.here hx rfl (hb hby at_90) rfl rfl stp) ?_
          refine own_up (S' := T58.setTop (mkF m 94 #[.val (.int c1), .val (.int s1), .val (.int f1), .val (.int (1 : Int32)), .val (.int ch), .val (.ref ob), .val (.int may), .val (.int (1 : Int32)), .unset, .unset, .unset, .unset] [(.int ch), (.ref ob)])) (fun t stp => XS.iload X58.here hx rfl (hb hby at_92) rfl stp) ?_
          refine own_callV X58 hx hZ hown (hw _ (List.mem_of_getElem? (i := 24) rfl)) (hw _ (List.mem_of_getElem? (i := 25) rfl)) (hw _ (List.mem_of_getElem? (i := 27) rfl)) (hw _ (List.mem_of_getElem? (i := 26) rfl)) (hw _ (List.mem_of_getElem? (i := 6) rfl)) (hw _ (List.mem_of_getElem? (i := 28) rfl)) (by decide) e58 (rm5 l Z a0 hw [] ob ch (1 : Int32) (1 : Int32) (1 : Int32) (0 : Int32) T55.heap n0 Zn56 G55a_55 G55b_55 G55c_55 G55d_55 A48_57 g_ob) 0 A48_57 [(.int ch)] [] (hb hby at_94) (lenOf own_pd3 rfl) (by decide) (by decide) (by decide) (by decide) rfl (by rw [hml]; rfl) rfl (by show 2 * 0 + _ ≤ _; exact Nat.le_of_eq rfl) rfl ?_
          intro T85 L85 r85 X85 q85
          obtain ⟨rfl, M85, K85, G85a_85, G85b_85, G85c_85, G85d_85⟩ := q85
          have N85 := Fr.app N58 M85
          have Zn86 := Nat.le_trans Zn56 K85.1
          have A48_87 := A48_57.keep K85
          show own_Ends p e below s (own_Q0 Z c1 s1 f1 h0 n0) room_1.cells room_1.slots (T85.setTop (mkF m 97 #[.val (.int c1), .val (.int s1), .val (.int f1), .val (.int (1 : Int32)), .val (.int ch), .val (.ref ob), .val (.int may), .val (.int (1 : Int32)), .unset, .unset, .unset, .unset] []))
          refine own_up (S' := T85.setTop (mkF m 99 #[.val (.int c1), .val (.int s1), .val (.int f1), .val (.int (1 : Int32)), .val (.int ch), .val (.ref ob), .val (.int may), .val (.int (1 : Int32)), .unset, .unset, .unset, .unset] [(.ref ob)])) (fun t stp => XS.aload X85.here hx rfl (hb hby at_97) rfl rfl stp) ?_
          refine own_callV X85 hx hZ hown (hw _ (List.mem_of_getElem? (i := 32) rfl)) (hw _ (List.mem_of_getElem? (i := 33) rfl)) (hw _ (List.mem_of_getElem? (i := 35) rfl)) (hw _ (List.mem_of_getElem? (i := 34) rfl)) (hw _ (List.mem_of_getElem? (i := 6) rfl)) (hw _ (List.mem_of_getElem? (i := 36) rfl)) (by decide) rfl (rm3 l Z a0 hw [] ob (own_ln (1 : Int32) (1 : Int32) (0 : Int32) ch) T85.heap n0 Zn86 G85a_85) 0 A48_87 [] [] (hb hby at_99) (lenOf own_pd4 rfl) (by decide) (by decide) (by decide) (by decide) rfl (by rw [hml]; rfl) rfl (by show 2 * 0 + _ ≤ _; exact Nat.le_of_eq rfl) rfl ?_
          intro T88 L88 r88 X88 q88
          obtain ⟨rfl, M88, e88⟩ := q88
          have N88 := Fr.app N85 M88
          show own_Ends p e below s (own_Q0 Z c1 s1 f1 h0 n0) room_1.cells room_1.slots (T88.setTop (mkF m 102 #[.val (.int c1), .val (.int s1), .val (.int f1), .val (.int (1 : Int32)), .val (.int ch), .val (.ref ob), .val (.int may), .val (.int (1 : Int32)), .unset, .unset, .unset, .unset] [(.int (own_ln (1 : Int32) (1 : Int32) (0 : Int32) ch))]))
          obtain ⟨ln, h_ln⟩ : ∃ z : Int32, z = (own_ln (1 : Int32) (1 : Int32) (0 : Int32) ch) := ⟨_, rfl⟩
          rw [← h_ln]
          refine own_up (S' := T88.setTop (mkF m 104 #[.val (.int c1), .val (.int s1), .val (.int f1), .val (.int (1 : Int32)), .val (.int ch), .val (.ref ob), .val (.int may), .val (.int (1 : Int32)), .val (.int ln), .unset, .unset, .unset] [])) (fun t stp => XS.istore X88.here hx rfl (hb hby at_102) rfl (l' := #[.val (.int c1), .val (.int s1), .val (.int f1), .val (.int (1 : Int32)), .val (.int ch), .val (.ref ob), .val (.int may), .val (.int (1 : Int32)), .val (.int ln), .unset, .unset, .unset]) rfl stp) ?_
          have k_ln : ln = (2 : Int32) := by rw [h_ln]; simp [own_ln, own_fd, own_sk, own_en, hc3_1, hc32_54, hc53_59, hc60_71, hc64_83, hc72_84]
          clear h_ln
          subst k_ln
          refine own_up (S' := T88.setTop (mkF m 106 #[.val (.int c1), .val (.int s1), .val (.int f1), .val (.int (1 : Int32)), .val (.int ch), .val (.ref ob), .val (.int may), .val (.int (1 : Int32)), .val (.int (2 : Int32)), .unset, .unset, .unset] [(.ref ob)])) (fun t stp => XS.aload X88.here hx rfl (hb hby at_104) rfl rfl stp) ?_
          refine own_callV X88 hx hZ hown (hw _ (List.mem_of_getElem? (i := 37) rfl)) (hw _ (List.mem_of_getElem? (i := 38) rfl)) (hw _ (List.mem_of_getElem? (i := 40) rfl)) (hw _ (List.mem_of_getElem? (i := 39) rfl)) (hw _ (List.mem_of_getElem? (i := 6) rfl)) (hw _ (List.mem_of_getElem? (i := 41) rfl)) (by decide) e88 (rm4 l Z a0 hw [] ob (own_cl (1 : Int32) (1 : Int32) (0 : Int32) ch) T85.heap n0 Zn86 G85b_85) 0 A48_87 [] [] (hb hby at_106) (lenOf own_pd4 rfl) (by decide) (by decide) (by decide) (by decide) rfl (by rw [hml]; rfl) rfl (by show 2 * 0 + _ ≤ _; exact Nat.le_of_eq rfl) rfl ?_
          intro T89 L89 r89 X89 q89
          obtain ⟨rfl, M89, e89⟩ := q89
          have N89 := Fr.app N88 M89
          show own_Ends p e below s (own_Q0 Z c1 s1 f1 h0 n0) room_1.cells room_1.slots (T89.setTop (mkF m 109 #[.val (.int c1), .val (.int s1), .val (.int f1), .val (.int (1 : Int32)), .val (.int ch), .val (.ref ob), .val (.int may), .val (.int (1 : Int32)), .val (.int (2 : Int32)), .unset, .unset, .unset] [(.int (own_cl (1 : Int32) (1 : Int32) (0 : Int32) ch))]))
          obtain ⟨cl, h_cl⟩ : ∃ z : Int32, z = (own_cl (1 : Int32) (1 : Int32) (0 : Int32) ch) := ⟨_, rfl⟩
          rw [← h_cl]
          refine own_up (S' := T89.setTop (mkF m 111 #[.val (.int c1), .val (.int s1), .val (.int f1), .val (.int (1 : Int32)), .val (.int ch), .val (.ref ob), .val (.int may), .val (.int (1 : Int32)), .val (.int (2 : Int32)), .val (.int cl), .unset, .unset] [])) (fun t stp => XS.istore X89.here hx rfl (hb hby at_109) rfl (l' := #[.val (.int c1), .val (.int s1), .val (.int f1), .val (.int (1 : Int32)), .val (.int ch), .val (.ref ob), .val (.int may), .val (.int (1 : Int32)), .val (.int (2 : Int32)), .val (.int cl), .unset, .unset]) rfl stp) ?_
          have k_cl : cl = (1 : Int32) := by rw [h_cl]; simp [own_cl, own_fd, own_sk, own_en, hc3_1, hc32_54, hc53_59, hc60_71, hc64_83, hc72_84]
          clear h_cl
          subst k_cl
          refine own_up (S' := T89.setTop (mkF m 113 #[.val (.int c1), .val (.int s1), .val (.int f1), .val (.int (1 : Int32)), .val (.int ch), .val (.ref ob), .val (.int may), .val (.int (1 : Int32)), .val (.int (2 : Int32)), .val (.int (1 : Int32)), .unset, .unset] [(.int (2 : Int32))])) (fun t stp => XS.iload X89.here hx rfl (hb hby at_111) rfl stp) ?_
          refine own_up (S' := T89.setTop (mkF m 114 #[.val (.int c1), .val (.int s1), .val (.int f1), .val (.int (1 : Int32)), .val (.int ch), .val (.ref ob), .val (.int may), .val (.int (1 : Int32)), .val (.int (2 : Int32)), .val (.int (1 : Int32)), .unset, .unset] [(.int (2 : Int32)), (.int (2 : Int32))])) (fun t stp => XT.iconstV X89.here hx rfl (2 : Int32) (hb hby at_113) rfl stp) ?_
          have hc114_90 : (2 : Int32) = (2 : Int32) := rfl
          refine own_up (S' := T89.setTop (mkF m 117 #[.val (.int c1), .val (.int s1), .val (.int f1), .val (.int (1 : Int32)), .val (.int ch), .val (.ref ob), .val (.int may), .val (.int (1 : Int32)), .val (.int (2 : Int32)), .val (.int (1 : Int32)), .unset, .unset] [])) (fun t stp => XS.icmpNo X89.here hx rfl (hb hby at_114) rfl (XT.ii_ne_f hc114_90) stp) ?_
          refine own_up (S' := T89.setTop (mkF m 119 #[.val (.int c1), .val (.int s1), .val (.int f1), .val (.int (1 : Int32)), .val (.int ch), .val (.ref ob), .val (.int may), .val (.int (1 : Int32)), .val (.int (2 : Int32)), .val (.int (1 : Int32)), .unset, .unset] [(.int (1 : Int32))])) (fun t stp => XS.iload X89.here hx rfl (hb hby at_117) rfl stp) ?_
          refine own_up (S' := T89.setTop (mkF m 120 #[.val (.int c1), .val (.int s1), .val (.int f1), .val (.int (1 : Int32)), .val (.int ch), .val (.ref ob), .val (.int may), .val (.int (1 : Int32)), .val (.int (2 : Int32)), .val (.int (1 : Int32)), .unset, .unset] [(.int (1 : Int32)), (.int (1 : Int32))])) (fun t stp => XT.iconstV X89.here hx rfl (1 : Int32) (hb hby at_119) rfl stp) ?_
          have hc120_91 : (1 : Int32) = (1 : Int32) := rfl
          refine own_up (S' := T89.setTop (mkF m 123 #[.val (.int c1), .val (.int s1), .val (.int f1), .val (.int (1 : Int32)), .val (.int ch), .val (.ref ob), .val (.int may), .val (.int (1 : Int32)), .val (.int (2 : Int32)), .val (.int (1 : Int32)), .unset, .unset] [])) (fun t stp => XS.icmpNo X89.here hx rfl (hb hby at_120) rfl (XT.ii_ne_f hc120_91) stp) ?_
          refine own_up (S' := T89.setTop (mkF m 124 #[.val (.int c1), .val (.int s1), .val (.int f1), .val (.int (1 : Int32)), .val (.int ch), .val (.ref ob), .val (.int may), .val (.int (1 : Int32)), .val (.int (2 : Int32)), .val (.int (1 : Int32)), .unset, .unset] [(.int (1 : Int32))])) (fun t stp => XT.iconstV X89.here hx rfl (1 : Int32) (hb hby at_123) rfl stp) ?_
          refine own_up (S' := T89.setTop (mkF m 128 #[.val (.int c1), .val (.int s1), .val (.int f1), .val (.int (1 : Int32)), .val (.int ch), .val (.ref ob), .val (.int may), .val (.int (1 : Int32)), .val (.int (2 : Int32)), .val (.int (1 : Int32)), .unset, .unset] [(.int (1 : Int32))])) (fun t stp => XS.goto X89.here hx rfl (pc0 := 124) (pc' := 128) rfl (hb hby at_124) (by decide) (by decide) stp) ?_
          refine own_up (S' := T89.setTop (mkF m 130 #[.val (.int c1), .val (.int s1), .val (.int f1), .val (.int (1 : Int32)), .val (.int ch), .val (.ref ob), .val (.int may), .val (.int (1 : Int32)), .val (.int (2 : Int32)), .val (.int (1 : Int32)), .val (.int (1 : Int32)), .unset] [])) (fun t stp => XS.istore X89.here hx rfl (hb hby at_128) rfl (l' := #[.val (.int c1), .val (.int s1), .val (.int f1), .val (.int (1 : Int32)), .val (.int ch), .val (.ref ob), .val (.int may), .val (.int (1 : Int32)), .val (.int (2 : Int32)), .val (.int (1 : Int32)), .val (.int (1 : Int32)), .unset]) rfl stp) ?_
          refine own_up (S' := T89.setTop (mkF m 132 #[.val (.int c1), .val (.int s1), .val (.int f1), .val (.int (1 : Int32)), .val (.int ch), .val (.ref ob), .val (.int may), .val (.int (1 : Int32)), .val (.int (2 : Int32)), .val (.int (1 : Int32)), .val (.int (1 : Int32)), .unset] [(.int (2 : Int32))])) (fun t stp => XS.iload X89.here hx rfl (hb hby at_130) rfl stp) ?_
          refine own_up (S' := T89.setTop (mkF m 133 #[.val (.int c1), .val (.int s1), .val (.int f1), .val (.int (1 : Int32)), .val (.int ch), .val (.ref ob), .val (.int may), .val (.int (1 : Int32)), .val (.int (2 : Int32)), .val (.int (1 : Int32)), .val (.int (1 : Int32)), .unset] [(.int (1 : Int32)), (.int (2 : Int32))])) (fun t stp => XT.iconstV X89.here hx rfl (1 : Int32) (hb hby at_132) rfl stp) ?_
          have hc133_92 : ¬ ((2 : Int32) = (1 : Int32)) := by decide
          refine own_up (S' := T89.setTop (mkF m 146 #[.val (.int c1), .val (.int s1), .val (.int f1), .val (.int (1 : Int32)), .val (.int ch), .val (.ref ob), .val (.int may), .val (.int (1 : Int32)), .val (.int (2 : Int32)), .val (.int (1 : Int32)), .val (.int (1 : Int32)), .unset] [])) (fun t stp => XS.icmpYes X89.here hx rfl (pc0 := 133) (pc' := 146) rfl (hb hby at_133) rfl (XT.ii_ne_t hc133_92) (by decide) (by decide) stp) ?_
          refine own_up (S' := T89.setTop (mkF m 147 #[.val (.int c1), .val (.int s1), .val (.int f1), .val (.int (1 : Int32)), .val (.int ch), .val (.ref ob), .val (.int may), .val (.int (1 : Int32)), .val (.int (2 : Int32)), .val (.int (1 : Int32)), .val (.int (1 : Int32)), .unset] [(.int (0 : Int32))])) (fun t stp => XT.iconstV X89.here hx rfl (0 : Int32) (hb hby at_146) rfl stp) ?_
          refine own_up (S' := T89.setTop (mkF m 149 #[.val (.int c1), .val (.int s1), .val (.int f1), .val (.int (1 : Int32)), .val (.int ch), .val (.ref ob), .val (.int may), .val (.int (1 : Int32)), .val (.int (2 : Int32)), .val (.int (1 : Int32)), .val (.int (1 : Int32)), .val (.int (0 : Int32))] [])) (fun t stp => XS.istore X89.here hx rfl (hb hby at_147) rfl (l' := #[.val (.int c1), .val (.int s1), .val (.int f1), .val (.int (1 : Int32)), .val (.int ch), .val (.ref ob), .val (.int may), .val (.int (1 : Int32)), .val (.int (2 : Int32)), .val (.int (1 : Int32)), .val (.int (1 : Int32)), .val (.int (0 : Int32))]) rfl stp) ?_
          refine own_up (S' := T89.setTop (mkF m 151 #[.val (.int c1), .val (.int s1), .val (.int f1), .val (.int (1 : Int32)), .val (.int ch), .val (.ref ob), .val (.int may), .val (.int (1 : Int32)), .val (.int (2 : Int32)), .val (.int (1 : Int32)), .val (.int (1 : Int32)), .val (.int (0 : Int32))] [(.int may)])) (fun t stp => XS.iload X89.here hx rfl (hb hby at_149) rfl stp) ?_
          refine own_up (S' := T89.setTop (mkF m 153 #[.val (.int c1), .val (.int s1), .val (.int f1), .val (.int (1 : Int32)), .val (.int ch), .val (.ref ob), .val (.int may), .val (.int (1 : Int32)), .val (.int (2 : Int32)), .val (.int (1 : Int32)), .val (.int (1 : Int32)), .val (.int (0 : Int32))] [(.int (1 : Int32)), (.int may)])) (fun t stp => XS.iload X89.here hx rfl (hb hby at_151) rfl stp) ?_
          have hc153_93 : may = (1 : Int32) := by rw [h_may]; exact (own_may_1 (by omega)).symm
          have ihc153_93 : may.toInt = 1 := own_ieq hc153_93
          refine own_up (S' := T89.setTop (mkF m 156 #[.val (.int c1), .val (.int s1), .val (.int f1), .val (.int (1 : Int32)), .val (.int ch), .val (.ref ob), .val (.int may), .val (.int (1 : Int32)), .val (.int (2 : Int32)), .val (.int (1 : Int32)), .val (.int (1 : Int32)), .val (.int (0 : Int32))] [])) (fun t stp => XS.icmpNo X89.here hx rfl (hb hby at_153) rfl (XT.ii_ne_f hc153_93) stp) ?_
          refine own_up (S' := T89.setTop (mkF m 158 #[.val (.int c1), .val (.int s1), .val (.int f1), .val (.int (1 : Int32)), .val (.int ch), .val (.ref ob), .val (.int may), .val (.int (1 : Int32)), .val (.int (2 : Int32)), .val (.int (1 : Int32)), .val (.int (1 : Int32)), .val (.int (0 : Int32))] [(.int may)])) (fun t stp => XS.iload X89.here hx rfl (hb hby at_156) rfl stp) ?_
          have hc158_94 : ¬ (may = 0) := by rw [hc153_93]; decide
          have ihc158_94 : may.toInt ≠ 0 := own_ine hc158_94
          refine own_up (S' := T89.setTop (mkF m 161 #[.val (.int c1), .val (.int s1), .val (.int f1), .val (.int (1 : Int32)), .val (.int ch), .val (.ref ob), .val (.int may), .val (.int (1 : Int32)), .val (.int (2 : Int32)), .val (.int (1 : Int32)), .val (.int (1 : Int32)), .val (.int (0 : Int32))] [])) (fun t stp => XS.ifNo X89.here hx rfl (hb hby at_158) rfl (XT.i0_eq_f hc158_94) stp) ?_
          refine own_up (S' := T89.setTop (mkF m 163 #[.val (.int c1), .val (.int s1), .val (.int f1), .val (.int (1 : Int32)), .val (.int ch), .val (.ref ob), .val (.int may), .val (.int (1 : Int32)), .val (.int (2 : Int32)), .val (.int (1 : Int32)), .val (.int (1 : Int32)), .val (.int (0 : Int32))] [(.int (1 : Int32))])) (fun t stp => XS.iload X89.here hx rfl (hb hby at_161) rfl stp) ?_
          have hc163_95 : ¬ ((1 : Int32) = 0) := hc32_54
          refine own_up (S' := T89.setTop (mkF m 166 #[.val (.int c1), .val (.int s1), .val (.int f1), .val (.int (1 : Int32)), .val (.int ch), .val (.ref ob), .val (.int may), .val (.int (1 : Int32)), .val (.int (2 : Int32)), .val (.int (1 : Int32)), .val (.int (1 : Int32)), .val (.int (0 : Int32))] [])) (fun t stp => XS.ifNo X89.here hx rfl (hb hby at_163) rfl (XT.i0_eq_f hc163_95) stp) ?_
          refine own_up (S' := T89.setTop (mkF m 174 #[.val (.int c1), .val (.int s1), .val (.int f1), .val (.int (1 : Int32)), .val (.int ch), .val (.ref ob), .val (.int may), .val (.int (1 : Int32)), .val (.int (2 : Int32)), .val (.int (1 : Int32)), .val (.int (1 : Int32)), .val (.int (0 : Int32))] [])) (fun t stp => XS.goto X89.here hx rfl (pc0 := 166) (pc' := 174) rfl (hb hby at_166) (by decide) (by decide) stp) ?_
          refine own_up (S' := T89.setTop (mkF m 175 #[.val (.int c1), .val (.int s1), .val (.int f1), .val (.int (1 : Int32)), .val (.int ch), .val (.ref ob), .val (.int may), .val (.int (1 : Int32)), .val (.int (2 : Int32)), .val (.int (1 : Int32)), .val (.int (1 : Int32)), .val (.int (0 : Int32))] [(.int (1 : Int32))])) (fun t stp => XT.iconstV X89.here hx rfl (1 : Int32) (hb hby at_174) rfl stp) ?_
          refine own_up (S' := T89.setTop (mkF m 179 #[.val (.int c1), .val (.int s1), .val (.int f1), .val (.int (1 : Int32)), .val (.int ch), .val (.ref ob), .val (.int may), .val (.int (1 : Int32)), .val (.int (2 : Int32)), .val (.int (1 : Int32)), .val (.int (1 : Int32)), .val (.int (0 : Int32))] [(.int (1 : Int32))])) (fun t stp => XS.goto X89.here hx rfl (pc0 := 175) (pc' := 179) rfl (hb hby at_175) (by decide) (by decide) stp) ?_
          refine own_retN X89 hx hlk (t := .boolean) hret (by simp) (z' := (1 : Int32)) rfl (hb hby at_179) (by decide) (by decide) ?_
          show own_Q0 Z c1 s1 f1 h0 n0 _ T89.heap _
          rw [e89]
          exact ⟨rfl, N89⟩
        · have ihc72_84 : ch.toInt ≠ 133 := own_ine hc72_84
          refine own_up (S' := T58.setTop (mkF m 75 #[.val (.int c1), .val (.int s1), .val (.int f1), .val (.int (1 : Int32)), .val (.int ch), .val (.ref ob), .val (.int may), .unset, .unset, .unset, .unset, .unset] [])) (fun t stp => XS.icmpNo X58.here hx rfl (hb hby at_72) rfl (XT.ii_eq_f hc72_84) stp) ?_
          refine own_up (S' := T58.setTop (mkF m 77 #[.val (.int c1), .val (.int s1), .val (.int f1), .val (.int (1 : Int32)), .val (.int ch), .val (.ref ob), .val (.int may), .unset, .unset, .unset, .unset, .unset] [(.int ch)])) (fun t stp => XS.iload X58.here hx rfl (hb hby at_75) rfl stp) ?_
          refine own_up (S' := T58.setTop (mkF m 80 #[.val (.int c1), .val (.int s1), .val (.int f1), .val (.int (1 : Int32)), .val (.int ch), .val (.ref ob), .val (.int may), .unset, .unset, .unset, .unset, .unset] [(.int (8232 : Int32)), (.int ch)])) (fun t stp => XT.sipushV X58.here hx rfl (8232 : Int32) (hb hby at_77) rfl stp) ?_
          by_cases hc80_96 : ch = (8232 : Int32)
          · have ihc80_96 : ch.toInt = 8232 := own_ieq hc80_96
            refine own_up (S' := T58.setTop (mkF m 83 #[.val (.int c1), .val (.int s1), .val (.int f1), .val (.int (1 : Int32)), .val (.int ch), .val (.ref ob), .val (.int may), .unset, .unset, .unset, .unset, .unset] [])) (fun t stp => XS.icmpNo X58.here hx rfl (hb hby at_80) rfl (XT.ii_ne_f hc80_96) stp) ?_
            refine own_up (S' := T58.setTop (mkF m 84 #[.val (.int c1), .val (.int s1), .val (.int f1), .val (.int (1 : Int32)), .val (.int ch), .val (.ref ob), .val (.int may), .unset, .unset, .unset, .unset, .unset] [(.int (1 : Int32))])) (fun t stp => XT.iconstV X58.here hx rfl (1 : Int32) (hb hby at_83) rfl stp) ?_
            refine own_up (S' := T58.setTop (mkF m 88 #[.val (.int c1), .val (.int s1), .val (.int f1), .val (.int (1 : Int32)), .val (.int ch), .val (.ref ob), .val (.int may), .unset, .unset, .unset, .unset, .unset] [(.int (1 : Int32))])) (fun t stp => XS.goto X58.here hx rfl (pc0 := 84) (pc' := 88) rfl (hb hby at_84) (by decide) (by decide) stp) ?_
            refine own_up (S' := T58.setTop (mkF m 90 #[.val (.int c1), .val (.int s1), .val (.int f1), .val (.int (1 : Int32)), .val (.int ch), .val (.ref ob), .val (.int may), .val (.int (1 : Int32)), .unset, .unset, .unset, .unset] [])) (fun t stp => XS.istore X58.here hx rfl (hb hby at_88) rfl (l' := #[.val (.int c1), .val (.int s1), .val (.int f1), .val (.int (1 : Int32)), .val (.int ch), .val (.ref ob), .val (.int may), .val (.int (1 : Int32)), .unset, .unset, .unset, .unset]) rfl stp) ?_
            refine own_up (S' := T58.setTop (mkF m 92 #[.val (.int c1), .val (.int s1), .val (.int f1), .val (.int (1 : Int32)), .val (.int ch), .val (.ref ob), .val (.int may), .val (.int (1 : Int32)), .unset, .unset, .unset, .unset] [(.ref ob)])) (fun t stp => XS.aload X58.here hx rfl (hb hby at_90) rfl rfl stp) ?_
            refine own_up (S' := T58.setTop (mkF m 94 #[.val (.int c1), .val (.int s1), .val (.int f1), .val (.int (1 : Int32)), .val (.int ch), .val (.ref ob), .val (.int may), .val (.int (1 : Int32)), .unset, .unset, .unset, .unset] [(.int ch), (.ref ob)])) (fun t stp => XS.iload X58.here hx rfl (hb hby at_92) rfl stp) ?_
            refine own_callV X58 hx hZ hown (hw _ (List.mem_of_getElem? (i := 24) rfl)) (hw _ (List.mem_of_getElem? (i := 25) rfl)) (hw _ (List.mem_of_getElem? (i := 27) rfl)) (hw _ (List.mem_of_getElem? (i := 26) rfl)) (hw _ (List.mem_of_getElem? (i := 6) rfl)) (hw _ (List.mem_of_getElem? (i := 28) rfl)) (by decide) e58 (rm5 l Z a0 hw [] ob ch (1 : Int32) (1 : Int32) (1 : Int32) (0 : Int32) T55.heap n0 Zn56 G55a_55 G55b_55 G55c_55 G55d_55 A48_57 g_ob) 0 A48_57 [(.int ch)] [] (hb hby at_94) (lenOf own_pd3 rfl) (by decide) (by decide) (by decide) (by decide) rfl (by rw [hml]; rfl) rfl (by show 2 * 0 + _ ≤ _; exact Nat.le_of_eq rfl) rfl ?_
            intro T97 L97 r97 X97 q97
            obtain ⟨rfl, M97, K97, G97a_97, G97b_97, G97c_97, G97d_97⟩ := q97
            have N97 := Fr.app N58 M97
            have Zn98 := Nat.le_trans Zn56 K97.1
            have A48_99 := A48_57.keep K97
            show own_Ends p e below s (own_Q0 Z c1 s1 f1 h0 n0) room_1.cells room_1.slots (T97.setTop (mkF m 97 #[.val (.int c1), .val (.int s1), .val (.int f1), .val (.int (1 : Int32)), .val (.int ch), .val (.ref ob), .val (.int may), .val (.int (1 : Int32)), .unset, .unset, .unset, .unset] []))
            refine own_up (S' := T97.setTop (mkF m 99 #[.val (.int c1), .val (.int s1), .val (.int f1), .val (.int (1 : Int32)), .val (.int ch), .val (.ref ob), .val (.int may), .val (.int (1 : Int32)), .unset, .unset, .unset, .unset] [(.ref ob)])) (fun t stp => XS.aload X97.here hx rfl (hb hby at_97) rfl rfl stp) ?_
            refine own_callV X97 hx hZ hown (hw _ (List.mem_of_getElem? (i := 32) rfl)) (hw _ (List.mem_of_getElem? (i := 33) rfl)) (hw _ (List.mem_of_getElem? (i := 35) rfl)) (hw _ (List.mem_of_getElem? (i := 34) rfl)) (hw _ (List.mem_of_getElem? (i := 6) rfl)) (hw _ (List.mem_of_getElem? (i := 36) rfl)) (by decide) rfl (rm3 l Z a0 hw [] ob (own_ln (1 : Int32) (1 : Int32) (0 : Int32) ch) T97.heap n0 Zn98 G97a_97) 0 A48_99 [] [] (hb hby at_99) (lenOf own_pd4 rfl) (by decide) (by decide) (by decide) (by decide) rfl (by rw [hml]; rfl) rfl (by show 2 * 0 + _ ≤ _; exact Nat.le_of_eq rfl) rfl ?_
            intro T100 L100 r100 X100 q100
            obtain ⟨rfl, M100, e100⟩ := q100
            have N100 := Fr.app N97 M100
            show own_Ends p e below s (own_Q0 Z c1 s1 f1 h0 n0) room_1.cells room_1.slots (T100.setTop (mkF m 102 #[.val (.int c1), .val (.int s1), .val (.int f1), .val (.int (1 : Int32)), .val (.int ch), .val (.ref ob), .val (.int may), .val (.int (1 : Int32)), .unset, .unset, .unset, .unset] [(.int (own_ln (1 : Int32) (1 : Int32) (0 : Int32) ch))]))
            obtain ⟨ln, h_ln⟩ : ∃ z : Int32, z = (own_ln (1 : Int32) (1 : Int32) (0 : Int32) ch) := ⟨_, rfl⟩
            rw [← h_ln]
            refine own_up (S' := T100.setTop (mkF m 104 #[.val (.int c1), .val (.int s1), .val (.int f1), .val (.int (1 : Int32)), .val (.int ch), .val (.ref ob), .val (.int may), .val (.int (1 : Int32)), .val (.int ln), .unset, .unset, .unset] [])) (fun t stp => XS.istore X100.here hx rfl (hb hby at_102) rfl (l' := #[.val (.int c1), .val (.int s1), .val (.int f1), .val (.int (1 : Int32)), .val (.int ch), .val (.ref ob), .val (.int may), .val (.int (1 : Int32)), .val (.int ln), .unset, .unset, .unset]) rfl stp) ?_
            have k_ln : ln = (2 : Int32) := by rw [h_ln]; simp [own_ln, own_fd, own_sk, own_en, hc3_1, hc32_54, hc53_59, hc60_71, hc64_83, hc72_84, hc80_96]
            clear h_ln
            subst k_ln
            refine own_up (S' := T100.setTop (mkF m 106 #[.val (.int c1), .val (.int s1), .val (.int f1), .val (.int (1 : Int32)), .val (.int ch), .val (.ref ob), .val (.int may), .val (.int (1 : Int32)), .val (.int (2 : Int32)), .unset, .unset, .unset] [(.ref ob)])) (fun t stp => XS.aload X100.here hx rfl (hb hby at_104) rfl rfl stp) ?_
            refine own_callV X100 hx hZ hown (hw _ (List.mem_of_getElem? (i := 37) rfl)) (hw _ (List.mem_of_getElem? (i := 38) rfl)) (hw _ (List.mem_of_getElem? (i := 40) rfl)) (hw _ (List.mem_of_getElem? (i := 39) rfl)) (hw _ (List.mem_of_getElem? (i := 6) rfl)) (hw _ (List.mem_of_getElem? (i := 41) rfl)) (by decide) e100 (rm4 l Z a0 hw [] ob (own_cl (1 : Int32) (1 : Int32) (0 : Int32) ch) T97.heap n0 Zn98 G97b_97) 0 A48_99 [] [] (hb hby at_106) (lenOf own_pd4 rfl) (by decide) (by decide) (by decide) (by decide) rfl (by rw [hml]; rfl) rfl (by show 2 * 0 + _ ≤ _; exact Nat.le_of_eq rfl) rfl ?_
            intro T101 L101 r101 X101 q101
            obtain ⟨rfl, M101, e101⟩ := q101
            have N101 := Fr.app N100 M101
            show own_Ends p e below s (own_Q0 Z c1 s1 f1 h0 n0) room_1.cells room_1.slots (T101.setTop (mkF m 109 #[.val (.int c1), .val (.int s1), .val (.int f1), .val (.int (1 : Int32)), .val (.int ch), .val (.ref ob), .val (.int may), .val (.int (1 : Int32)), .val (.int (2 : Int32)), .unset, .unset, .unset] [(.int (own_cl (1 : Int32) (1 : Int32) (0 : Int32) ch))]))
            obtain ⟨cl, h_cl⟩ : ∃ z : Int32, z = (own_cl (1 : Int32) (1 : Int32) (0 : Int32) ch) := ⟨_, rfl⟩
            rw [← h_cl]
            refine own_up (S' := T101.setTop (mkF m 111 #[.val (.int c1), .val (.int s1), .val (.int f1), .val (.int (1 : Int32)), .val (.int ch), .val (.ref ob), .val (.int may), .val (.int (1 : Int32)), .val (.int (2 : Int32)), .val (.int cl), .unset, .unset] [])) (fun t stp => XS.istore X101.here hx rfl (hb hby at_109) rfl (l' := #[.val (.int c1), .val (.int s1), .val (.int f1), .val (.int (1 : Int32)), .val (.int ch), .val (.ref ob), .val (.int may), .val (.int (1 : Int32)), .val (.int (2 : Int32)), .val (.int cl), .unset, .unset]) rfl stp) ?_
            have k_cl : cl = (1 : Int32) := by rw [h_cl]; simp [own_cl, own_fd, own_sk, own_en, hc3_1, hc32_54, hc53_59, hc60_71, hc64_83, hc72_84, hc80_96]
            clear h_cl
            subst k_cl
            refine own_up (S' := T101.setTop (mkF m 113 #[.val (.int c1), .val (.int s1), .val (.int f1), .val (.int (1 : Int32)), .val (.int ch), .val (.ref ob), .val (.int may), .val (.int (1 : Int32)), .val (.int (2 : Int32)), .val (.int (1 : Int32)), .unset, .unset] [(.int (2 : Int32))])) (fun t stp => XS.iload X101.here hx rfl (hb hby at_111) rfl stp) ?_
            refine own_up (S' := T101.setTop (mkF m 114 #[.val (.int c1), .val (.int s1), .val (.int f1), .val (.int (1 : Int32)), .val (.int ch), .val (.ref ob), .val (.int may), .val (.int (1 : Int32)), .val (.int (2 : Int32)), .val (.int (1 : Int32)), .unset, .unset] [(.int (2 : Int32)), (.int (2 : Int32))])) (fun t stp => XT.iconstV X101.here hx rfl (2 : Int32) (hb hby at_113) rfl stp) ?_
            have hc114_102 : (2 : Int32) = (2 : Int32) := rfl
            refine own_up (S' := T101.setTop (mkF m 117 #[.val (.int c1), .val (.int s1), .val (.int f1), .val (.int (1 : Int32)), .val (.int ch), .val (.ref ob), .val (.int may), .val (.int (1 : Int32)), .val (.int (2 : Int32)), .val (.int (1 : Int32)), .unset, .unset] [])) (fun t stp => XS.icmpNo X101.here hx rfl (hb hby at_114) rfl (XT.ii_ne_f hc114_102) stp) ?_
            refine own_up (S' := T101.setTop (mkF m 119 #[.val (.int c1), .val (.int s1), .val (.int f1), .val (.int (1 : Int32)), .val (.int ch), .val (.ref ob), .val (.int may), .val (.int (1 : Int32)), .val (.int (2 : Int32)), .val (.int (1 : Int32)), .unset, .unset] [(.int (1 : Int32))])) (fun t stp => XS.iload X101.here hx rfl (hb hby at_117) rfl stp) ?_
            refine own_up (S' := T101.setTop (mkF m 120 #[.val (.int c1), .val (.int s1), .val (.int f1), .val (.int (1 : Int32)), .val (.int ch), .val (.ref ob), .val (.int may), .val (.int (1 : Int32)), .val (.int (2 : Int32)), .val (.int (1 : Int32)), .unset, .unset] [(.int (1 : Int32)), (.int (1 : Int32))])) (fun t stp => XT.iconstV X101.here hx rfl (1 : Int32) (hb hby at_119) rfl stp) ?_
            have hc120_103 : (1 : Int32) = (1 : Int32) := rfl
            refine own_up (S' := T101.setTop (mkF m 123 #[.val (.int c1), .val (.int s1), .val (.int f1), .val (.int (1 : Int32)), .val (.int ch), .val (.ref ob), .val (.int may), .val (.int (1 : Int32)), .val (.int (2 : Int32)), .val (.int (1 : Int32)), .unset, .unset] [])) (fun t stp => XS.icmpNo X101.here hx rfl (hb hby at_120) rfl (XT.ii_ne_f hc120_103) stp) ?_
            refine own_up (S' := T101.setTop (mkF m 124 #[.val (.int c1), .val (.int s1), .val (.int f1), .val (.int (1 : Int32)), .val (.int ch), .val (.ref ob), .val (.int may), .val (.int (1 : Int32)), .val (.int (2 : Int32)), .val (.int (1 : Int32)), .unset, .unset] [(.int (1 : Int32))])) (fun t stp => XT.iconstV X101.here hx rfl (1 : Int32) (hb hby at_123) rfl stp) ?_
            refine own_up (S' := T101.setTop (mkF m 128 #[.val (.int c1), .val (.int s1), .val (.int f1), .val (.int (1 : Int32)), .val (.int ch), .val (.ref ob), .val (.int may), .val (.int (1 : Int32)), .val (.int (2 : Int32)), .val (.int (1 : Int32)), .unset, .unset] [(.int (1 : Int32))])) (fun t stp => XS.goto X101.here hx rfl (pc0 := 124) (pc' := 128) rfl (hb hby at_124) (by decide) (by decide) stp) ?_
            refine own_up (S' := T101.setTop (mkF m 130 #[.val (.int c1), .val (.int s1), .val (.int f1), .val (.int (1 : Int32)), .val (.int ch), .val (.ref ob), .val (.int may), .val (.int (1 : Int32)), .val (.int (2 : Int32)), .val (.int (1 : Int32)), .val (.int (1 : Int32)), .unset] [])) (fun t stp => XS.istore X101.here hx rfl (hb hby at_128) rfl (l' := #[.val (.int c1), .val (.int s1), .val (.int f1), .val (.int (1 : Int32)), .val (.int ch), .val (.ref ob), .val (.int may), .val (.int (1 : Int32)), .val (.int (2 : Int32)), .val (.int (1 : Int32)), .val (.int (1 : Int32)), .unset]) rfl stp) ?_
            refine own_up (S' := T101.setTop (mkF m 132 #[.val (.int c1), .val (.int s1), .val (.int f1), .val (.int (1 : Int32)), .val (.int ch), .val (.ref ob), .val (.int may), .val (.int (1 : Int32)), .val (.int (2 : Int32)), .val (.int (1 : Int32)), .val (.int (1 : Int32)), .unset] [(.int (2 : Int32))])) (fun t stp => XS.iload X101.here hx rfl (hb hby at_130) rfl stp) ?_
            refine own_up (S' := T101.setTop (mkF m 133 #[.val (.int c1), .val (.int s1), .val (.int f1), .val (.int (1 : Int32)), .val (.int ch), .val (.ref ob), .val (.int may), .val (.int (1 : Int32)), .val (.int (2 : Int32)), .val (.int (1 : Int32)), .val (.int (1 : Int32)), .unset] [(.int (1 : Int32)), (.int (2 : Int32))])) (fun t stp => XT.iconstV X101.here hx rfl (1 : Int32) (hb hby at_132) rfl stp) ?_
            have hc133_104 : ¬ ((2 : Int32) = (1 : Int32)) := by decide
            refine own_up (S' := T101.setTop (mkF m 146 #[.val (.int c1), .val (.int s1), .val (.int f1), .val (.int (1 : Int32)), .val (.int ch), .val (.ref ob), .val (.int may), .val (.int (1 : Int32)), .val (.int (2 : Int32)), .val (.int (1 : Int32)), .val (.int (1 : Int32)), .unset] [])) (fun t stp => XS.icmpYes X101.here hx rfl (pc0 := 133) (pc' := 146) rfl (hb hby at_133) rfl (XT.ii_ne_t hc133_104) (by decide) (by decide) stp) ?_
            refine own_up (S' := T101.setTop (mkF m 147 #[.val (.int c1), .val (.int s1), .val (.int f1), .val (.int (1 : Int32)), .val (.int ch), .val (.ref ob), .val (.int may), .val (.int (1 : Int32)), .val (.int (2 : Int32)), .val (.int (1 : Int32)), .val (.int (1 : Int32)), .unset] [(.int (0 : Int32))])) (fun t stp => XT.iconstV X101.here hx rfl (0 : Int32) (hb hby at_146) rfl stp) ?_
            refine own_up (S' := T101.setTop (mkF m 149 #[.val (.int c1), .val (.int s1), .val (.int f1), .val (.int (1 : Int32)), .val (.int ch), .val (.ref ob), .val (.int may), .val (.int (1 : Int32)), .val (.int (2 : Int32)), .val (.int (1 : Int32)), .val (.int (1 : Int32)), .val (.int (0 : Int32))] [])) (fun t stp => XS.istore X101.here hx rfl (hb hby at_147) rfl (l' := #[.val (.int c1), .val (.int s1), .val (.int f1), .val (.int (1 : Int32)), .val (.int ch), .val (.ref ob), .val (.int may), .val (.int (1 : Int32)), .val (.int (2 : Int32)), .val (.int (1 : Int32)), .val (.int (1 : Int32)), .val (.int (0 : Int32))]) rfl stp) ?_
            refine own_up (S' := T101.setTop (mkF m 151 #[.val (.int c1), .val (.int s1), .val (.int f1), .val (.int (1 : Int32)), .val (.int ch), .val (.ref ob), .val (.int may), .val (.int (1 : Int32)), .val (.int (2 : Int32)), .val (.int (1 : Int32)), .val (.int (1 : Int32)), .val (.int (0 : Int32))] [(.int may)])) (fun t stp => XS.iload X101.here hx rfl (hb hby at_149) rfl stp) ?_
            refine own_up (S' := T101.setTop (mkF m 153 #[.val (.int c1), .val (.int s1), .val (.int f1), .val (.int (1 : Int32)), .val (.int ch), .val (.ref ob), .val (.int may), .val (.int (1 : Int32)), .val (.int (2 : Int32)), .val (.int (1 : Int32)), .val (.int (1 : Int32)), .val (.int (0 : Int32))] [(.int (1 : Int32)), (.int may)])) (fun t stp => XS.iload X101.here hx rfl (hb hby at_151) rfl stp) ?_
            have hc153_105 : may = (1 : Int32) := by rw [h_may]; exact (own_may_1 (by omega)).symm
            have ihc153_105 : may.toInt = 1 := own_ieq hc153_105
            refine own_up (S' := T101.setTop (mkF m 156 #[.val (.int c1), .val (.int s1), .val (.int f1), .val (.int (1 : Int32)), .val (.int ch), .val (.ref ob), .val (.int may), .val (.int (1 : Int32)), .val (.int (2 : Int32)), .val (.int (1 : Int32)), .val (.int (1 : Int32)), .val (.int (0 : Int32))] [])) (fun t stp => XS.icmpNo X101.here hx rfl (hb hby at_153) rfl (XT.ii_ne_f hc153_105) stp) ?_
            refine own_up (S' := T101.setTop (mkF m 158 #[.val (.int c1), .val (.int s1), .val (.int f1), .val (.int (1 : Int32)), .val (.int ch), .val (.ref ob), .val (.int may), .val (.int (1 : Int32)), .val (.int (2 : Int32)), .val (.int (1 : Int32)), .val (.int (1 : Int32)), .val (.int (0 : Int32))] [(.int may)])) (fun t stp => XS.iload X101.here hx rfl (hb hby at_156) rfl stp) ?_
            have hc158_106 : ¬ (may = 0) := by rw [hc153_105]; decide
            have ihc158_106 : may.toInt ≠ 0 := own_ine hc158_106
            refine own_up (S' := T101.setTop (mkF m 161 #[.val (.int c1), .val (.int s1), .val (.int f1), .val (.int (1 : Int32)), .val (.int ch), .val (.ref ob), .val (.int may), .val (.int (1 : Int32)), .val (.int (2 : Int32)), .val (.int (1 : Int32)), .val (.int (1 : Int32)), .val (.int (0 : Int32))] [])) (fun t stp => XS.ifNo X101.here hx rfl (hb hby at_158) rfl (XT.i0_eq_f hc158_106) stp) ?_
            refine own_up (S' := T101.setTop (mkF m 163 #[.val (.int c1), .val (.int s1), .val (.int f1), .val (.int (1 : Int32)), .val (.int ch), .val (.ref ob), .val (.int may), .val (.int (1 : Int32)), .val (.int (2 : Int32)), .val (.int (1 : Int32)), .val (.int (1 : Int32)), .val (.int (0 : Int32))] [(.int (1 : Int32))])) (fun t stp => XS.iload X101.here hx rfl (hb hby at_161) rfl stp) ?_
            have hc163_107 : ¬ ((1 : Int32) = 0) := hc32_54
            refine own_up (S' := T101.setTop (mkF m 166 #[.val (.int c1), .val (.int s1), .val (.int f1), .val (.int (1 : Int32)), .val (.int ch), .val (.ref ob), .val (.int may), .val (.int (1 : Int32)), .val (.int (2 : Int32)), .val (.int (1 : Int32)), .val (.int (1 : Int32)), .val (.int (0 : Int32))] [])) (fun t stp => XS.ifNo X101.here hx rfl (hb hby at_163) rfl (XT.i0_eq_f hc163_107) stp) ?_
            refine own_up (S' := T101.setTop (mkF m 174 #[.val (.int c1), .val (.int s1), .val (.int f1), .val (.int (1 : Int32)), .val (.int ch), .val (.ref ob), .val (.int may), .val (.int (1 : Int32)), .val (.int (2 : Int32)), .val (.int (1 : Int32)), .val (.int (1 : Int32)), .val (.int (0 : Int32))] [])) (fun t stp => XS.goto X101.here hx rfl (pc0 := 166) (pc' := 174) rfl (hb hby at_166) (by decide) (by decide) stp) ?_
            refine own_up (S' := T101.setTop (mkF m 175 #[.val (.int c1), .val (.int s1), .val (.int f1), .val (.int (1 : Int32)), .val (.int ch), .val (.ref ob), .val (.int may), .val (.int (1 : Int32)), .val (.int (2 : Int32)), .val (.int (1 : Int32)), .val (.int (1 : Int32)), .val (.int (0 : Int32))] [(.int (1 : Int32))])) (fun t stp => XT.iconstV X101.here hx rfl (1 : Int32) (hb hby at_174) rfl stp) ?_
            refine own_up (S' := T101.setTop (mkF m 179 #[.val (.int c1), .val (.int s1), .val (.int f1), .val (.int (1 : Int32)), .val (.int ch), .val (.ref ob), .val (.int may), .val (.int (1 : Int32)), .val (.int (2 : Int32)), .val (.int (1 : Int32)), .val (.int (1 : Int32)), .val (.int (0 : Int32))] [(.int (1 : Int32))])) (fun t stp => XS.goto X101.here hx rfl (pc0 := 175) (pc' := 179) rfl (hb hby at_175) (by decide) (by decide) stp) ?_
            refine own_retN X101 hx hlk (t := .boolean) hret (by simp) (z' := (1 : Int32)) rfl (hb hby at_179) (by decide) (by decide) ?_
            show own_Q0 Z c1 s1 f1 h0 n0 _ T101.heap _
            rw [e101]
            exact ⟨rfl, N101⟩
          · have ihc80_96 : ch.toInt ≠ 8232 := own_ine hc80_96
            refine own_up (S' := T58.setTop (mkF m 87 #[.val (.int c1), .val (.int s1), .val (.int f1), .val (.int (1 : Int32)), .val (.int ch), .val (.ref ob), .val (.int may), .unset, .unset, .unset, .unset, .unset] [])) (fun t stp => XS.icmpYes X58.here hx rfl (pc0 := 80) (pc' := 87) rfl (hb hby at_80) rfl (XT.ii_ne_t hc80_96) (by decide) (by decide) stp) ?_
            refine own_up (S' := T58.setTop (mkF m 88 #[.val (.int c1), .val (.int s1), .val (.int f1), .val (.int (1 : Int32)), .val (.int ch), .val (.ref ob), .val (.int may), .unset, .unset, .unset, .unset, .unset] [(.int (0 : Int32))])) (fun t stp => XT.iconstV X58.here hx rfl (0 : Int32) (hb hby at_87) rfl stp) ?_
            refine own_up (S' := T58.setTop (mkF m 90 #[.val (.int c1), .val (.int s1), .val (.int f1), .val (.int (1 : Int32)), .val (.int ch), .val (.ref ob), .val (.int may), .val (.int (0 : Int32)), .unset, .unset, .unset, .unset] [])) (fun t stp => XS.istore X58.here hx rfl (hb hby at_88) rfl (l' := #[.val (.int c1), .val (.int s1), .val (.int f1), .val (.int (1 : Int32)), .val (.int ch), .val (.ref ob), .val (.int may), .val (.int (0 : Int32)), .unset, .unset, .unset, .unset]) rfl stp) ?_
            refine own_up (S' := T58.setTop (mkF m 92 #[.val (.int c1), .val (.int s1), .val (.int f1), .val (.int (1 : Int32)), .val (.int ch), .val (.ref ob), .val (.int may), .val (.int (0 : Int32)), .unset, .unset, .unset, .unset] [(.ref ob)])) (fun t stp => XS.aload X58.here hx rfl (hb hby at_90) rfl rfl stp) ?_
            refine own_up (S' := T58.setTop (mkF m 94 #[.val (.int c1), .val (.int s1), .val (.int f1), .val (.int (1 : Int32)), .val (.int ch), .val (.ref ob), .val (.int may), .val (.int (0 : Int32)), .unset, .unset, .unset, .unset] [(.int ch), (.ref ob)])) (fun t stp => XS.iload X58.here hx rfl (hb hby at_92) rfl stp) ?_
            refine own_callV X58 hx hZ hown (hw _ (List.mem_of_getElem? (i := 24) rfl)) (hw _ (List.mem_of_getElem? (i := 25) rfl)) (hw _ (List.mem_of_getElem? (i := 27) rfl)) (hw _ (List.mem_of_getElem? (i := 26) rfl)) (hw _ (List.mem_of_getElem? (i := 6) rfl)) (hw _ (List.mem_of_getElem? (i := 28) rfl)) (by decide) e58 (rm5 l Z a0 hw [] ob ch (1 : Int32) (1 : Int32) (1 : Int32) (0 : Int32) T55.heap n0 Zn56 G55a_55 G55b_55 G55c_55 G55d_55 A48_57 g_ob) 0 A48_57 [(.int ch)] [] (hb hby at_94) (lenOf own_pd3 rfl) (by decide) (by decide) (by decide) (by decide) rfl (by rw [hml]; rfl) rfl (by show 2 * 0 + _ ≤ _; exact Nat.le_of_eq rfl) rfl ?_
            intro T108 L108 r108 X108 q108
            obtain ⟨rfl, M108, K108, G108a_108, G108b_108, G108c_108, G108d_108⟩ := q108
            have N108 := Fr.app N58 M108
            have Zn109 := Nat.le_trans Zn56 K108.1
            have A48_110 := A48_57.keep K108
            show own_Ends p e below s (own_Q0 Z c1 s1 f1 h0 n0) room_1.cells room_1.slots (T108.setTop (mkF m 97 #[.val (.int c1), .val (.int s1), .val (.int f1), .val (.int (1 : Int32)), .val (.int ch), .val (.ref ob), .val (.int may), .val (.int (0 : Int32)), .unset, .unset, .unset, .unset] []))
            refine own_up (S' := T108.setTop (mkF m 99 #[.val (.int c1), .val (.int s1), .val (.int f1), .val (.int (1 : Int32)), .val (.int ch), .val (.ref ob), .val (.int may), .val (.int (0 : Int32)), .unset, .unset, .unset, .unset] [(.ref ob)])) (fun t stp => XS.aload X108.here hx rfl (hb hby at_97) rfl rfl stp) ?_
            refine own_callV X108 hx hZ hown (hw _ (List.mem_of_getElem? (i := 32) rfl)) (hw _ (List.mem_of_getElem? (i := 33) rfl)) (hw _ (List.mem_of_getElem? (i := 35) rfl)) (hw _ (List.mem_of_getElem? (i := 34) rfl)) (hw _ (List.mem_of_getElem? (i := 6) rfl)) (hw _ (List.mem_of_getElem? (i := 36) rfl)) (by decide) rfl (rm3 l Z a0 hw [] ob (own_ln (1 : Int32) (1 : Int32) (0 : Int32) ch) T108.heap n0 Zn109 G108a_108) 0 A48_110 [] [] (hb hby at_99) (lenOf own_pd4 rfl) (by decide) (by decide) (by decide) (by decide) rfl (by rw [hml]; rfl) rfl (by show 2 * 0 + _ ≤ _; exact Nat.le_of_eq rfl) rfl ?_
            intro T111 L111 r111 X111 q111
            obtain ⟨rfl, M111, e111⟩ := q111
            have N111 := Fr.app N108 M111
            show own_Ends p e below s (own_Q0 Z c1 s1 f1 h0 n0) room_1.cells room_1.slots (T111.setTop (mkF m 102 #[.val (.int c1), .val (.int s1), .val (.int f1), .val (.int (1 : Int32)), .val (.int ch), .val (.ref ob), .val (.int may), .val (.int (0 : Int32)), .unset, .unset, .unset, .unset] [(.int (own_ln (1 : Int32) (1 : Int32) (0 : Int32) ch))]))
            obtain ⟨ln, h_ln⟩ : ∃ z : Int32, z = (own_ln (1 : Int32) (1 : Int32) (0 : Int32) ch) := ⟨_, rfl⟩
            rw [← h_ln]
            refine own_up (S' := T111.setTop (mkF m 104 #[.val (.int c1), .val (.int s1), .val (.int f1), .val (.int (1 : Int32)), .val (.int ch), .val (.ref ob), .val (.int may), .val (.int (0 : Int32)), .val (.int ln), .unset, .unset, .unset] [])) (fun t stp => XS.istore X111.here hx rfl (hb hby at_102) rfl (l' := #[.val (.int c1), .val (.int s1), .val (.int f1), .val (.int (1 : Int32)), .val (.int ch), .val (.ref ob), .val (.int may), .val (.int (0 : Int32)), .val (.int ln), .unset, .unset, .unset]) rfl stp) ?_
            have k_ln : ln = (1 : Int32) := by rw [h_ln]; simp [own_ln, own_fd, own_sk, own_en, hc3_1, hc32_54, hc53_59, hc60_71, hc64_83, hc72_84, hc80_96]
            clear h_ln
            subst k_ln
            refine own_up (S' := T111.setTop (mkF m 106 #[.val (.int c1), .val (.int s1), .val (.int f1), .val (.int (1 : Int32)), .val (.int ch), .val (.ref ob), .val (.int may), .val (.int (0 : Int32)), .val (.int (1 : Int32)), .unset, .unset, .unset] [(.ref ob)])) (fun t stp => XS.aload X111.here hx rfl (hb hby at_104) rfl rfl stp) ?_
            refine own_callV X111 hx hZ hown (hw _ (List.mem_of_getElem? (i := 37) rfl)) (hw _ (List.mem_of_getElem? (i := 38) rfl)) (hw _ (List.mem_of_getElem? (i := 40) rfl)) (hw _ (List.mem_of_getElem? (i := 39) rfl)) (hw _ (List.mem_of_getElem? (i := 6) rfl)) (hw _ (List.mem_of_getElem? (i := 41) rfl)) (by decide) e111 (rm4 l Z a0 hw [] ob (own_cl (1 : Int32) (1 : Int32) (0 : Int32) ch) T108.heap n0 Zn109 G108b_108) 0 A48_110 [] [] (hb hby at_106) (lenOf own_pd4 rfl) (by decide) (by decide) (by decide) (by decide) rfl (by rw [hml]; rfl) rfl (by show 2 * 0 + _ ≤ _; exact Nat.le_of_eq rfl) rfl ?_
            intro T112 L112 r112 X112 q112
            obtain ⟨rfl, M112, e112⟩ := q112
            have N112 := Fr.app N111 M112
            show own_Ends p e below s (own_Q0 Z c1 s1 f1 h0 n0) room_1.cells room_1.slots (T112.setTop (mkF m 109 #[.val (.int c1), .val (.int s1), .val (.int f1), .val (.int (1 : Int32)), .val (.int ch), .val (.ref ob), .val (.int may), .val (.int (0 : Int32)), .val (.int (1 : Int32)), .unset, .unset, .unset] [(.int (own_cl (1 : Int32) (1 : Int32) (0 : Int32) ch))]))
            obtain ⟨cl, h_cl⟩ : ∃ z : Int32, z = (own_cl (1 : Int32) (1 : Int32) (0 : Int32) ch) := ⟨_, rfl⟩
            rw [← h_cl]
            refine own_up (S' := T112.setTop (mkF m 111 #[.val (.int c1), .val (.int s1), .val (.int f1), .val (.int (1 : Int32)), .val (.int ch), .val (.ref ob), .val (.int may), .val (.int (0 : Int32)), .val (.int (1 : Int32)), .val (.int cl), .unset, .unset] [])) (fun t stp => XS.istore X112.here hx rfl (hb hby at_109) rfl (l' := #[.val (.int c1), .val (.int s1), .val (.int f1), .val (.int (1 : Int32)), .val (.int ch), .val (.ref ob), .val (.int may), .val (.int (0 : Int32)), .val (.int (1 : Int32)), .val (.int cl), .unset, .unset]) rfl stp) ?_
            have k_cl : 1 < cl.toInt := by rw [h_cl]; simp only [own_cl]; rw [if_neg (by simp [own_fd, own_sk, own_en, hc3_1, hc32_54, hc53_59, hc60_71, hc64_83, hc72_84, hc80_96]), if_neg (by simp [own_fd, own_sk, own_en, hc3_1, hc32_54, hc53_59, hc60_71, hc64_83, hc72_84, hc80_96])]; split <;> decide
            refine own_up (S' := T112.setTop (mkF m 113 #[.val (.int c1), .val (.int s1), .val (.int f1), .val (.int (1 : Int32)), .val (.int ch), .val (.ref ob), .val (.int may), .val (.int (0 : Int32)), .val (.int (1 : Int32)), .val (.int cl), .unset, .unset] [(.int (1 : Int32))])) (fun t stp => XS.iload X112.here hx rfl (hb hby at_111) rfl stp) ?_
            refine own_up (S' := T112.setTop (mkF m 114 #[.val (.int c1), .val (.int s1), .val (.int f1), .val (.int (1 : Int32)), .val (.int ch), .val (.ref ob), .val (.int may), .val (.int (0 : Int32)), .val (.int (1 : Int32)), .val (.int cl), .unset, .unset] [(.int (2 : Int32)), (.int (1 : Int32))])) (fun t stp => XT.iconstV X112.here hx rfl (2 : Int32) (hb hby at_113) rfl stp) ?_
            have hc114_113 : ¬ ((1 : Int32) = (2 : Int32)) := by decide
            refine own_up (S' := T112.setTop (mkF m 127 #[.val (.int c1), .val (.int s1), .val (.int f1), .val (.int (1 : Int32)), .val (.int ch), .val (.ref ob), .val (.int may), .val (.int (0 : Int32)), .val (.int (1 : Int32)), .val (.int cl), .unset, .unset] [])) (fun t stp => XS.icmpYes X112.here hx rfl (pc0 := 114) (pc' := 127) rfl (hb hby at_114) rfl (XT.ii_ne_t hc114_113) (by decide) (by decide) stp) ?_
            refine own_up (S' := T112.setTop (mkF m 128 #[.val (.int c1), .val (.int s1), .val (.int f1), .val (.int (1 : Int32)), .val (.int ch), .val (.ref ob), .val (.int may), .val (.int (0 : Int32)), .val (.int (1 : Int32)), .val (.int cl), .unset, .unset] [(.int (0 : Int32))])) (fun t stp => XT.iconstV X112.here hx rfl (0 : Int32) (hb hby at_127) rfl stp) ?_
            refine own_up (S' := T112.setTop (mkF m 130 #[.val (.int c1), .val (.int s1), .val (.int f1), .val (.int (1 : Int32)), .val (.int ch), .val (.ref ob), .val (.int may), .val (.int (0 : Int32)), .val (.int (1 : Int32)), .val (.int cl), .val (.int (0 : Int32)), .unset] [])) (fun t stp => XS.istore X112.here hx rfl (hb hby at_128) rfl (l' := #[.val (.int c1), .val (.int s1), .val (.int f1), .val (.int (1 : Int32)), .val (.int ch), .val (.ref ob), .val (.int may), .val (.int (0 : Int32)), .val (.int (1 : Int32)), .val (.int cl), .val (.int (0 : Int32)), .unset]) rfl stp) ?_
            refine own_up (S' := T112.setTop (mkF m 132 #[.val (.int c1), .val (.int s1), .val (.int f1), .val (.int (1 : Int32)), .val (.int ch), .val (.ref ob), .val (.int may), .val (.int (0 : Int32)), .val (.int (1 : Int32)), .val (.int cl), .val (.int (0 : Int32)), .unset] [(.int (1 : Int32))])) (fun t stp => XS.iload X112.here hx rfl (hb hby at_130) rfl stp) ?_
            refine own_up (S' := T112.setTop (mkF m 133 #[.val (.int c1), .val (.int s1), .val (.int f1), .val (.int (1 : Int32)), .val (.int ch), .val (.ref ob), .val (.int may), .val (.int (0 : Int32)), .val (.int (1 : Int32)), .val (.int cl), .val (.int (0 : Int32)), .unset] [(.int (1 : Int32)), (.int (1 : Int32))])) (fun t stp => XT.iconstV X112.here hx rfl (1 : Int32) (hb hby at_132) rfl stp) ?_
            have hc133_114 : (1 : Int32) = (1 : Int32) := rfl
            refine own_up (S' := T112.setTop (mkF m 136 #[.val (.int c1), .val (.int s1), .val (.int f1), .val (.int (1 : Int32)), .val (.int ch), .val (.ref ob), .val (.int may), .val (.int (0 : Int32)), .val (.int (1 : Int32)), .val (.int cl), .val (.int (0 : Int32)), .unset] [])) (fun t stp => XS.icmpNo X112.here hx rfl (hb hby at_133) rfl (XT.ii_ne_f hc133_114) stp) ?_
            refine own_up (S' := T112.setTop (mkF m 138 #[.val (.int c1), .val (.int s1), .val (.int f1), .val (.int (1 : Int32)), .val (.int ch), .val (.ref ob), .val (.int may), .val (.int (0 : Int32)), .val (.int (1 : Int32)), .val (.int cl), .val (.int (0 : Int32)), .unset] [(.int cl)])) (fun t stp => XS.iload X112.here hx rfl (hb hby at_136) rfl stp) ?_
            refine own_up (S' := T112.setTop (mkF m 139 #[.val (.int c1), .val (.int s1), .val (.int f1), .val (.int (1 : Int32)), .val (.int ch), .val (.ref ob), .val (.int may), .val (.int (0 : Int32)), .val (.int (1 : Int32)), .val (.int cl), .val (.int (0 : Int32)), .unset] [(.int (1 : Int32)), (.int cl)])) (fun t stp => XT.iconstV X112.here hx rfl (1 : Int32) (hb hby at_138) rfl stp) ?_
            have ihc139_115 : 1 < cl.toInt := by omega
            have hc139_115 : (1 : Int32) < cl := own_ilt_of ihc139_115
            refine own_up (S' := T112.setTop (mkF m 142 #[.val (.int c1), .val (.int s1), .val (.int f1), .val (.int (1 : Int32)), .val (.int ch), .val (.ref ob), .val (.int may), .val (.int (0 : Int32)), .val (.int (1 : Int32)), .val (.int cl), .val (.int (0 : Int32)), .unset] [])) (fun t stp => XS.icmpNo X112.here hx rfl (hb hby at_139) rfl (XT.ii_le_f hc139_115) stp) ?_
            refine own_up (S' := T112.setTop (mkF m 143 #[.val (.int c1), .val (.int s1), .val (.int f1), .val (.int (1 : Int32)), .val (.int ch), .val (.ref ob), .val (.int may), .val (.int (0 : Int32)), .val (.int (1 : Int32)), .val (.int cl), .val (.int (0 : Int32)), .unset] [(.int (1 : Int32))])) (fun t stp => XT.iconstV X112.here hx rfl (1 : Int32) (hb hby at_142) rfl stp) ?_
            refine own_up (S' := T112.setTop (mkF m 147 #[.val (.int c1), .val (.int s1), .val (.int f1), .val (.int (1 : Int32)), .val (.int ch), .val (.ref ob), .val (.int may), .val (.int (0 : Int32)), .val (.int (1 : Int32)), .val (.int cl), .val (.int (0 : Int32)), .unset] [(.int (1 : Int32))])) (fun t stp => XS.goto X112.here hx rfl (pc0 := 143) (pc' := 147) rfl (hb hby at_143) (by decide) (by decide) stp) ?_
            refine own_up (S' := T112.setTop (mkF m 149 #[.val (.int c1), .val (.int s1), .val (.int f1), .val (.int (1 : Int32)), .val (.int ch), .val (.ref ob), .val (.int may), .val (.int (0 : Int32)), .val (.int (1 : Int32)), .val (.int cl), .val (.int (0 : Int32)), .val (.int (1 : Int32))] [])) (fun t stp => XS.istore X112.here hx rfl (hb hby at_147) rfl (l' := #[.val (.int c1), .val (.int s1), .val (.int f1), .val (.int (1 : Int32)), .val (.int ch), .val (.ref ob), .val (.int may), .val (.int (0 : Int32)), .val (.int (1 : Int32)), .val (.int cl), .val (.int (0 : Int32)), .val (.int (1 : Int32))]) rfl stp) ?_
            refine own_up (S' := T112.setTop (mkF m 151 #[.val (.int c1), .val (.int s1), .val (.int f1), .val (.int (1 : Int32)), .val (.int ch), .val (.ref ob), .val (.int may), .val (.int (0 : Int32)), .val (.int (1 : Int32)), .val (.int cl), .val (.int (0 : Int32)), .val (.int (1 : Int32))] [(.int may)])) (fun t stp => XS.iload X112.here hx rfl (hb hby at_149) rfl stp) ?_
            refine own_up (S' := T112.setTop (mkF m 153 #[.val (.int c1), .val (.int s1), .val (.int f1), .val (.int (1 : Int32)), .val (.int ch), .val (.ref ob), .val (.int may), .val (.int (0 : Int32)), .val (.int (1 : Int32)), .val (.int cl), .val (.int (0 : Int32)), .val (.int (1 : Int32))] [(.int (0 : Int32)), (.int may)])) (fun t stp => XS.iload X112.here hx rfl (hb hby at_151) rfl stp) ?_
            have hc153_116 : may = (0 : Int32) := by rw [h_may]; exact (own_may_0 (by omega)).symm
            have ihc153_116 : may.toInt = 0 := own_ieq hc153_116
            refine own_up (S' := T112.setTop (mkF m 156 #[.val (.int c1), .val (.int s1), .val (.int f1), .val (.int (1 : Int32)), .val (.int ch), .val (.ref ob), .val (.int may), .val (.int (0 : Int32)), .val (.int (1 : Int32)), .val (.int cl), .val (.int (0 : Int32)), .val (.int (1 : Int32))] [])) (fun t stp => XS.icmpNo X112.here hx rfl (hb hby at_153) rfl (XT.ii_ne_f hc153_116) stp) ?_
            refine own_up (S' := T112.setTop (mkF m 158 #[.val (.int c1), .val (.int s1), .val (.int f1), .val (.int (1 : Int32)), .val (.int ch), .val (.ref ob), .val (.int may), .val (.int (0 : Int32)), .val (.int (1 : Int32)), .val (.int cl), .val (.int (0 : Int32)), .val (.int (1 : Int32))] [(.int may)])) (fun t stp => XS.iload X112.here hx rfl (hb hby at_156) rfl stp) ?_
            have hc158_117 : may = 0 := hc153_116
            have ihc158_117 : may.toInt = 0 := own_ieq hc158_117
            refine own_up (S' := T112.setTop (mkF m 169 #[.val (.int c1), .val (.int s1), .val (.int f1), .val (.int (1 : Int32)), .val (.int ch), .val (.ref ob), .val (.int may), .val (.int (0 : Int32)), .val (.int (1 : Int32)), .val (.int cl), .val (.int (0 : Int32)), .val (.int (1 : Int32))] [])) (fun t stp => XS.ifYes X112.here hx rfl (pc0 := 158) (pc' := 169) rfl (hb hby at_158) rfl (XT.i0_eq_t hc158_117) (by decide) (by decide) stp) ?_
            refine own_up (S' := T112.setTop (mkF m 171 #[.val (.int c1), .val (.int s1), .val (.int f1), .val (.int (1 : Int32)), .val (.int ch), .val (.ref ob), .val (.int may), .val (.int (0 : Int32)), .val (.int (1 : Int32)), .val (.int cl), .val (.int (0 : Int32)), .val (.int (1 : Int32))] [(.int (1 : Int32))])) (fun t stp => XS.iload X112.here hx rfl (hb hby at_169) rfl stp) ?_
            have hc171_118 : ¬ ((1 : Int32) = 0) := hc32_54
            refine own_up (S' := T112.setTop (mkF m 174 #[.val (.int c1), .val (.int s1), .val (.int f1), .val (.int (1 : Int32)), .val (.int ch), .val (.ref ob), .val (.int may), .val (.int (0 : Int32)), .val (.int (1 : Int32)), .val (.int cl), .val (.int (0 : Int32)), .val (.int (1 : Int32))] [])) (fun t stp => XS.ifNo X112.here hx rfl (hb hby at_171) rfl (XT.i0_eq_f hc171_118) stp) ?_
            refine own_up (S' := T112.setTop (mkF m 175 #[.val (.int c1), .val (.int s1), .val (.int f1), .val (.int (1 : Int32)), .val (.int ch), .val (.ref ob), .val (.int may), .val (.int (0 : Int32)), .val (.int (1 : Int32)), .val (.int cl), .val (.int (0 : Int32)), .val (.int (1 : Int32))] [(.int (1 : Int32))])) (fun t stp => XT.iconstV X112.here hx rfl (1 : Int32) (hb hby at_174) rfl stp) ?_
            refine own_up (S' := T112.setTop (mkF m 179 #[.val (.int c1), .val (.int s1), .val (.int f1), .val (.int (1 : Int32)), .val (.int ch), .val (.ref ob), .val (.int may), .val (.int (0 : Int32)), .val (.int (1 : Int32)), .val (.int cl), .val (.int (0 : Int32)), .val (.int (1 : Int32))] [(.int (1 : Int32))])) (fun t stp => XS.goto X112.here hx rfl (pc0 := 175) (pc' := 179) rfl (hb hby at_175) (by decide) (by decide) stp) ?_
            refine own_retN X112 hx hlk (t := .boolean) hret (by simp) (z' := (1 : Int32)) rfl (hb hby at_179) (by decide) (by decide) ?_
            show own_Q0 Z c1 s1 f1 h0 n0 _ T112.heap _
            rw [e112]
            exact ⟨rfl, N112⟩
set_option maxRecDepth 65536 in
set_option maxHeartbeats 40000000 in
theorem comes_1 {Post : Tables → Env → Array Value → State → Outcome → State → Prop} (hpost : ∀ tb e args s v u, (limb_1_1.after args s (.returned v) u = true ∧ limb_1_2.after args s (.returned v) u = true ∧ True) → FrameEnd s (.returned v) u (Jvm.fieldLocs frame_1_writes args s ++ Jvm.arrayLocs frame_1_arrays args s ++ Jvm.staticLocs frame_1_statics s) 16 128 → Post tb e args s (.returned v) u) :
    ArmFor flags0 classFile x code maxLocals ret World_1 tables_1 room_1 Calls_1 rest_1 Pre_1 Post := by
  intro l hfl _ _ p e ha hc hk s m args below hf hA hF happ hP
  obtain ⟨hcalls, hrest, hpre⟩ := hP
  obtain ⟨-, -, -, hnamed, -, -, -, hat⟩ := (Spec.applies_iff hf).mp happ
  obtain ⟨hg, hn⟩ := and_e (Cond.before_iff.mp (show (Jvm.Cond.and given_1 narrow_1).before args s = true from hpre))
  obtain ⟨g0, k0⟩ := and_e hg
  obtain ⟨g1, k1⟩ := and_e k0
  obtain ⟨g2, k2⟩ := and_e k1
  obtain ⟨w0, w1, w2, rfl⟩ : ∃ w0 w1 w2 : Value, args = #[w0, w1, w2] := by
    have hs : args.size = 3 := by simpa [Cond.value, given_1] using g0
    obtain ⟨L⟩ := args
    match L, hs with
    | [w0, w1, w2], _ => exact ⟨w0, w1, w2, rfl⟩
  have hw := fun d (hd : d ∈ tables_1) => atoms_spec (ws := Jvm.Cond.code x code maxLocals ret :: tables_1) hat d (List.mem_cons_of_mem _ hd)
  obtain ⟨i0, ei0⟩ := is_v g1
  obtain rfl : w0 = (.int i0) := Option.some.inj ei0
  obtain ⟨i1, ei1⟩ := is_v g2
  obtain rfl : w1 = (.int i1) := Option.some.inj ei1
  obtain ⟨i2, ei2⟩ := is_v k2
  obtain rfl : w2 = (.int i2) := Option.some.inj ei2
  obtain ⟨n, o, h1, h2, h3, _, L, rfl, ⟨rfl, N⟩, hq⟩ := rm0 l s _ hw tables_1 i0 i1 i2 s.heap s.heap.size (Nat.le_refl _)  p e ha hc hk s m _ below hf ((Spec.applies_iff_loose hf).mp happ).1 ⟨rfl, State.Warmed39.refl s, rfl⟩ trivial
  refine ⟨n, _, h1, h2, h3, hpost _ _ _ _ _ _ ⟨Cond.after_iff.mpr rfl, Cond.after_iff.mpr (eq_i res_at (Term.int_eval (1)) rfl), trivial⟩ ⟨hq.1, hq.2.1, (hq.2.2.sift fun y hy => Or.inr (N y hy)).mono (by decide) (by decide)⟩⟩
theorem main_1_1 : Claimed_1_1 := comes_1 fun _ _ _ _ _ _ h hF => ⟨h.1, hF⟩
theorem main_1_2 : Claimed_1_2 := comes_1 fun _ _ _ _ _ _ h hF => ⟨h.2.1, hF⟩
end Jvm.Pilot.@@N@@
namespace Jvm.Pilot.@@N@@
open Jvm Jvm.ClassFile Sem Op Lib Jvm.Free Jvm.Stand Jvm.Pilot.@@N@@.Jvm.D
/-! MADE BY PROGRAM (witnessworld.py) out of the Statement's table words and the real class files: 9 classes; the members and pool entries that the words name. The judged class is class 1, her method 1. -/
namespace start1
open Jvm.ClassFile
def u (s : String) : CpInfo := .utf8 (stringToUtf16 s)
/-- a pool by its gaps: so many unusable entries, then the entry; so many at the end -/
def gap : Nat → List CpInfo → List CpInfo
  | 0, r => r
  | n + 1, r => .unusable :: gap n r
def poolList (es : List (Nat × CpInfo)) (last : Nat) : List CpInfo := es.foldr (fun e r => gap e.1 (e.2 :: r)) (gap last [])
def pool (es : List (Nat × CpInfo)) (last : Nat) : Array CpInfo := ⟨poolList es last⟩
def fileOf (pool : Array CpInfo) (this : Nat) (attrs : Array Attribute := #[]) (ms : Array MethodInfo := #[]) (fl : Nat := 33) (sup : Nat := 0) (ifs : Array Nat := #[]) (fds : Array FieldInfo := #[]) : ClassFile where
  minorVersion := 0
  majorVersion := 65
  constantPool := pool
  accessFlags := fl
  thisClass := this
  superClass := sup
  interfaces := ifs
  fields := fds
  methods := ms
  attributes := attrs
def plain (name : String) (sup : Option ClassId) : Class where
  name := name
  kind := .ordinary
  loader := none
  accessFlags := 33
  super := sup
  interfaces := #[]
  cf := none
  fields := #[]
  methods := #[]
  instanceTypes := #[]
  staticTypes := #[]
  resolved := #[]
  callSites := []
  init := .initialized
  statics := none
  mirror := none

def pool0 : Array CpInfo := pool [(5, u "<init>"), (0, u "()V"), (1, .class_ 10), (1, u "java/lang/Object")] 113

def k0c0 : Code := { maxStack := 0, maxLocals := 1, code := object_method_1_code, exceptionTable := #[], attributes := #[] }
def k0m0 : Method := { name := "<init>", desc := "()V", sig := { parameters := [], returnType := none }, accessFlags := 1, code := some k0c0 }
/-- java/lang/Object -/
def k0 : Class := { plain "java/lang/Object" none with
  accessFlags := 33
  interfaces := #[]
  cf := some (fileOf pool0 8 #[] #[{ accessFlags := 1, nameIndex := 5, descriptorIndex := 6, attributes := #[] }] 33 0 #[] #[])
  fields := #[]
  methods := #[k0m0]
  instanceTypes := #[]
  staticTypes := #[]
  resolved := Array.replicate 124 none
  statics := none }

def pool1 : Array CpInfo := pool [(2, .class_ 4), (0, .nameAndType 5 6), (0, u "java/lang/Object"), (0, u "<init>"), (0, u "()V"), (0, .methodref 8 9), (0, .class_ 10), (0, .nameAndType 11 12), (0, u "com/example/viewrite/viewrite/io/xml/PlaceMayEndLinePinLaw"), (0, u "pick"), (0, u "(II)I"), (0, .class_ 14), (0, u "com/example/viewrite/viewrite/io/xml/Place"), (0, .methodref 13 3), (0, .methodref 13 17), (0, .nameAndType 18 6), (0, u "endLinesAsXml11"), (0, .methodref 13 20), (0, .nameAndType 21 22), (0, u "mayEndLine"), (0, u "(I)Z"), (0, .methodref 13 24), (0, .nameAndType 25 26), (0, u "pass"), (0, u "(I)V"), (0, .methodref 13 28), (0, .nameAndType 29 30), (0, u "line"), (0, u "()I"), (0, .methodref 13 32), (0, .nameAndType 33 30), (0, u "column"), (0, .integer 65535), (2, u "law"), (0, u "(III)Z")] 3

def k1m0 : Method := { name := "<init>", desc := "()V", sig := { parameters := [], returnType := none }, accessFlags := 1, code := none }
def k1c1 : Code := { maxStack := 3, maxLocals := 12, code := code, exceptionTable := #[], attributes := #[] }
def k1m1 : Method := { name := "law", desc := "(III)Z", sig := { parameters := [.int, .int, .int], returnType := some .boolean }, accessFlags := 9, code := some k1c1 }
def k1c2 : Code := { maxStack := 2, maxLocals := 2, code := method_3_code, exceptionTable := #[], attributes := #[] }
def k1m2 : Method := { name := "pick", desc := "(II)I", sig := { parameters := [.int, .int], returnType := some .int }, accessFlags := 10, code := some k1c2 }
/-- com/example/viewrite/viewrite/io/xml/PlaceMayEndLinePinLaw -/
def k1 : Class := { plain "com/example/viewrite/viewrite/io/xml/PlaceMayEndLinePinLaw" (some 0) with
  accessFlags := 49
  interfaces := #[]
  cf := some (fileOf pool1 8 #[] #[{ accessFlags := 1, nameIndex := 5, descriptorIndex := 6, attributes := #[] }, { accessFlags := 9, nameIndex := 37, descriptorIndex := 38, attributes := #[] }, { accessFlags := 10, nameIndex := 11, descriptorIndex := 12, attributes := #[] }] 49 2 #[] #[])
  fields := #[]
  methods := #[k1m0, k1m1, k1m2]
  instanceTypes := #[]
  staticTypes := #[]
  resolved := Array.replicate 42 none
  statics := none }

def pool2 : Array CpInfo := pool [(1, .methodref 2 3), (0, .class_ 4), (0, .nameAndType 5 6), (0, u "java/lang/Object"), (0, u "<init>"), (0, u "()V"), (0, .fieldref 8 9), (0, .class_ 10), (0, .nameAndType 11 12), (0, u "com/example/viewrite/viewrite/io/xml/Place"), (0, u "line"), (0, u "I"), (0, .fieldref 8 14), (0, .nameAndType 15 12), (0, u "column"), (0, .fieldref 8 17), (0, .nameAndType 18 19), (0, u "xml11"), (0, u "Z"), (0, .fieldref 8 21), (0, .nameAndType 22 19), (0, u "afterCarriageReturn"), (0, .integer 65535), (0, u "NEXT_LINE"), (2, u "LINE_SEPARATOR"), (3, u "pass"), (0, u "(I)V"), (2, u "mayEndLine"), (0, u "(I)Z"), (0, u "endLinesAsXml11"), (0, u "()I")] 2

def k2c0 : Code := { maxStack := 2, maxLocals := 1, code := prog_88_method_1_code, exceptionTable := #[], attributes := #[] }
def k2m0 : Method := { name := "<init>", desc := "()V", sig := { parameters := [], returnType := none }, accessFlags := 0, code := some k2c0 }
def k2c1 : Code := { maxStack := 4, maxLocals := 3, code := prog_88_method_2_code, exceptionTable := #[], attributes := #[] }
def k2m1 : Method := { name := "pass", desc := "(I)V", sig := { parameters := [.int], returnType := none }, accessFlags := 0, code := some k2c1 }
def k2c2 : Code := { maxStack := 2, maxLocals := 2, code := prog_88_method_4_code, exceptionTable := #[], attributes := #[] }
def k2m2 : Method := { name := "mayEndLine", desc := "(I)Z", sig := { parameters := [.int], returnType := some .boolean }, accessFlags := 0, code := some k2c2 }
def k2c3 : Code := { maxStack := 2, maxLocals := 1, code := prog_88_method_5_code, exceptionTable := #[], attributes := #[] }
def k2m3 : Method := { name := "endLinesAsXml11", desc := "()V", sig := { parameters := [], returnType := none }, accessFlags := 0, code := some k2c3 }
def k2c4 : Code := { maxStack := 1, maxLocals := 1, code := prog_88_method_6_code, exceptionTable := #[], attributes := #[] }
def k2m4 : Method := { name := "line", desc := "()I", sig := { parameters := [], returnType := some .int }, accessFlags := 0, code := some k2c4 }
def k2c5 : Code := { maxStack := 1, maxLocals := 1, code := prog_88_method_7_code, exceptionTable := #[], attributes := #[] }
def k2m5 : Method := { name := "column", desc := "()I", sig := { parameters := [], returnType := some .int }, accessFlags := 0, code := some k2c5 }
/-- com/example/viewrite/viewrite/io/xml/Place -/
def k2 : Class := { plain "com/example/viewrite/viewrite/io/xml/Place" (some 0) with
  accessFlags := 32
  interfaces := #[]
  cf := some (fileOf pool2 8 #[] #[{ accessFlags := 0, nameIndex := 5, descriptorIndex := 6, attributes := #[] }, { accessFlags := 0, nameIndex := 31, descriptorIndex := 32, attributes := #[] }, { accessFlags := 0, nameIndex := 35, descriptorIndex := 36, attributes := #[] }, { accessFlags := 0, nameIndex := 37, descriptorIndex := 6, attributes := #[] }, { accessFlags := 0, nameIndex := 11, descriptorIndex := 38, attributes := #[] }, { accessFlags := 0, nameIndex := 15, descriptorIndex := 38, attributes := #[] }] 32 2 #[] #[{ accessFlags := 26, nameIndex := 24, descriptorIndex := 12, attributes := #[] }, { accessFlags := 26, nameIndex := 27, descriptorIndex := 12, attributes := #[] }, { accessFlags := 2, nameIndex := 11, descriptorIndex := 12, attributes := #[] }, { accessFlags := 2, nameIndex := 15, descriptorIndex := 12, attributes := #[] }, { accessFlags := 2, nameIndex := 22, descriptorIndex := 19, attributes := #[] }, { accessFlags := 2, nameIndex := 18, descriptorIndex := 19, attributes := #[] }])
  fields := #[{ name := "NEXT_LINE", type := .int, accessFlags := 26, slot := 0, constantValue := 0 }, { name := "LINE_SEPARATOR", type := .int, accessFlags := 26, slot := 1, constantValue := 0 }, { name := "line", type := .int, accessFlags := 2, slot := 0, constantValue := 0 }, { name := "column", type := .int, accessFlags := 2, slot := 1, constantValue := 0 }, { name := "afterCarriageReturn", type := .boolean, accessFlags := 2, slot := 2, constantValue := 0 }, { name := "xml11", type := .boolean, accessFlags := 2, slot := 3, constantValue := 0 }]
  methods := #[k2m0, k2m1, k2m2, k2m3, k2m4, k2m5]
  instanceTypes := #[.int, .int, .boolean, .boolean]
  staticTypes := #[.int, .int]
  resolved := Array.replicate 41 none
  statics := none }

def pool3 : Array CpInfo := pool [(1, u "java/lang/Cloneable"), (0, .class_ 1), (0, u "java/lang/Object"), (0, .class_ 3)] 3

/-- java/lang/Cloneable -/
def k3 : Class := { plain "java/lang/Cloneable" (some 0) with
  accessFlags := 1537
  interfaces := #[]
  cf := some (fileOf pool3 2 #[] #[] 1537 4 #[] #[])
  fields := #[]
  methods := #[]
  instanceTypes := #[]
  staticTypes := #[]
  resolved := Array.replicate 8 none
  statics := none }

def pool4 : Array CpInfo := pool [(1, u "java/io/Serializable"), (0, .class_ 1), (0, u "java/lang/Object"), (0, .class_ 3)] 3

/-- java/io/Serializable -/
def k4 : Class := { plain "java/io/Serializable" (some 0) with
  accessFlags := 1537
  interfaces := #[]
  cf := some (fileOf pool4 2 #[] #[] 1537 4 #[] #[])
  fields := #[]
  methods := #[]
  instanceTypes := #[]
  staticTypes := #[]
  resolved := Array.replicate 8 none
  statics := none }

/-- the primitive byte -/
def k5 : Class := { plain "byte" none with kind := .primitive 'B', accessFlags := 0x411 }
/-- [B -/
def k6 : Class := { plain "[B" (some 0) with kind := .array 5 .byte, interfaces := #[3, 4], accessFlags := 1041 }

/-- the primitive int -/
def k7 : Class := { plain "int" none with kind := .primitive 'I', accessFlags := 0x411 }
/-- [I -/
def k8 : Class := { plain "[I" (some 0) with kind := .array 7 .int, interfaces := #[3, 4], accessFlags := 1041 }

def heap : Heap := #[]
def classes : Array Class := #[k0, k1, k2, k3, k4, k5, k6, k7, k8]
def interned : List (Array UInt16 × Addr) := []
def slotsUsed : Nat := 0
def theMethod : MethodId := ⟨1, 1⟩
def args0 : Array Value := #[.int 70, .int 3, .int 1]
def aboutOver (below : List Frame) : State where
  vm := { classes := classes, interned := interned.toArray }
  heap := heap
  slotsUsed := slotsUsed
  threads := #[{ frames := .invoking theMethod args0 :: below }]
def below0 : List Frame := [.native { method := ⟨0, 0⟩, args := #[] }]
def about1 : State := aboutOver below0
def p0 : Program := .bare "" "" ""
def e0 : Env := launch0.env 0 0 0
theorem w_frames : about1.frames = Frame.invoking theMethod args0 :: below0 := rfl
set_option maxRecDepth 65536 in
theorem w_args : argsFit about1.vm theMethod args0 = true := by decide +kernel
set_option maxRecDepth 65536 in
theorem w_heap : heapFits about1 = true := by decide +kernel
set_option maxRecDepth 65536 in
theorem w_runnable : about1.curStatus? = some .runnable := by decide +kernel
set_option maxRecDepth 65536 in
theorem w_alone : about1.alone = true := by decide +kernel
set_option maxRecDepth 65536 in
theorem w_named : about1.methodNamed? x = some theMethod := by decide +kernel
set_option maxRecDepth 65536 in
theorem w_hears : about1.hears theMethod below0 = true := by decide +kernel
set_option maxRecDepth 65536 in
theorem w_ripe : about1.ripe theMethod args0 below0 = true := by decide +kernel
theorem w_running : about1.status = .running := rfl
set_option maxRecDepth 65536 in
theorem w_room : about1.hasRoom e0.platform room_1 = true :=
  launch0.hasRoom_least _ room_1 (by decide +kernel) (by decide +kernel) (by decide +kernel) (by decide +kernel) (by decide +kernel) (by decide +kernel)
theorem allAtoms_all (ts : List Jvm.Cond) (a : Array Jvm.Value) (st : Jvm.State) : (allAtoms ts).before a st = ts.all (fun c => c.before a st) := by
  induction ts with
  | nil => rfl
  | cons c t ih =>
    show (Jvm.Cond.and c (allAtoms t)).before a st = _
    rw [Jvm.Cond.before_and, ih, List.all_cons]
def words1 : List Jvm.Cond := Jvm.Cond.code x code maxLocals ret :: tables_1
/-- a 'code' word, met by the world's own term for the bytes: nothing is compared byte by byte -/
theorem code_word {y : MethodName} {bytes : ByteArray} {mx : Nat} {rt : Option FieldType} {a : Array Value} {s : State} {m : MethodId} {meth : Method} {c : Code} (h1 : s.methodNamed? y = some m) (h2 : s.vm.method? m = some meth) (h3 : meth.code = some c) (h4 : c.code = bytes)
    (h5 : (c.maxLocals == mx && c.exceptionTable.isEmpty && decide (c.maxStack ≤ mostOperands) && decide (meth.sig.returnType = rt) && !meth.locks && decide (parseMethodDescriptor y.desc = some meth.sig)) = true) : (Jvm.Cond.code y bytes mx rt).before a s = true := by
  simp only [Bool.and_eq_true, beq_iff_eq, Bool.not_eq_true', decide_eq_true_eq] at h5
  obtain ⟨⟨⟨⟨⟨g1, g2⟩, g3⟩, g4⟩, g5⟩, g6⟩ := h5
  simp [Cond.before, Cond.holds, Cond.value, h1, h2, h3, h4, g1, g2, g3, g4, g5, g6]
def isCode : Jvm.Cond → Bool
  | .code _ _ _ _ => true
  | _ => false
theorem all_split {L : List Jvm.Cond} {P : Jvm.Cond → Bool} (h1 : L.all (fun c => isCode c || P c) = true) (h2 : ∀ c ∈ L.filter isCode, P c = true) : L.all P = true := by
  refine List.all_eq_true.mpr fun c hc => ?_
  have h := List.all_eq_true.mp h1 c hc
  rcases Bool.eq_false_or_eq_true (isCode c) with hi | hi
  · exact h2 c (List.mem_filter.mpr ⟨hc, hi⟩)
  · simpa [hi] using h
set_option maxRecDepth 65536 in
theorem w_c0 : (Jvm.Cond.code x code maxLocals ret).before args0 about1 = true := code_word (m := ⟨1, 1⟩) (meth := k1m1) (c := k1c1) (by decide +kernel) rfl rfl rfl (by decide +kernel)
set_option maxRecDepth 65536 in
theorem w_c1 : (Jvm.Cond.code ({ cls := "com/example/viewrite/viewrite/io/xml/PlaceMayEndLinePinLaw", name := "pick", desc := "(II)I" } : Jvm.MethodName) method_3_code (2 : Nat) (Option.some Jvm.ClassFile.FieldType.int)).before args0 about1 = true := code_word (m := ⟨1, 2⟩) (meth := k1m2) (c := k1c2) (by decide +kernel) rfl rfl rfl (by decide +kernel)
set_option maxRecDepth 65536 in
theorem w_c2 : (Jvm.Cond.code ({ cls := "com/example/viewrite/viewrite/io/xml/Place", name := "<init>", desc := "()V" } : Jvm.MethodName) prog_88_method_1_code (1 : Nat) (Option.none : Option Jvm.ClassFile.FieldType)).before args0 about1 = true := code_word (m := ⟨2, 0⟩) (meth := k2m0) (c := k2c0) (by decide +kernel) rfl rfl rfl (by decide +kernel)
set_option maxRecDepth 65536 in
theorem w_c3 : (Jvm.Cond.code ({ cls := "java/lang/Object", name := "<init>", desc := "()V" } : Jvm.MethodName) object_method_1_code (1 : Nat) (Option.none : Option Jvm.ClassFile.FieldType)).before args0 about1 = true := code_word (m := ⟨0, 0⟩) (meth := k0m0) (c := k0c0) (by decide +kernel) rfl rfl rfl (by decide +kernel)
set_option maxRecDepth 65536 in
theorem w_c4 : (Jvm.Cond.code ({ cls := "com/example/viewrite/viewrite/io/xml/Place", name := "mayEndLine", desc := "(I)Z" } : Jvm.MethodName) prog_88_method_4_code (2 : Nat) (Option.some Jvm.ClassFile.FieldType.boolean)).before args0 about1 = true := code_word (m := ⟨2, 2⟩) (meth := k2m2) (c := k2c2) (by decide +kernel) rfl rfl rfl (by decide +kernel)
set_option maxRecDepth 65536 in
theorem w_c5 : (Jvm.Cond.code ({ cls := "com/example/viewrite/viewrite/io/xml/Place", name := "pass", desc := "(I)V" } : Jvm.MethodName) prog_88_method_2_code (3 : Nat) (Option.none : Option Jvm.ClassFile.FieldType)).before args0 about1 = true := code_word (m := ⟨2, 1⟩) (meth := k2m1) (c := k2c1) (by decide +kernel) rfl rfl rfl (by decide +kernel)
set_option maxRecDepth 65536 in
theorem w_c6 : (Jvm.Cond.code ({ cls := "com/example/viewrite/viewrite/io/xml/Place", name := "line", desc := "()I" } : Jvm.MethodName) prog_88_method_6_code (1 : Nat) (Option.some Jvm.ClassFile.FieldType.int)).before args0 about1 = true := code_word (m := ⟨2, 4⟩) (meth := k2m4) (c := k2c4) (by decide +kernel) rfl rfl rfl (by decide +kernel)
set_option maxRecDepth 65536 in
theorem w_c7 : (Jvm.Cond.code ({ cls := "com/example/viewrite/viewrite/io/xml/Place", name := "column", desc := "()I" } : Jvm.MethodName) prog_88_method_7_code (1 : Nat) (Option.some Jvm.ClassFile.FieldType.int)).before args0 about1 = true := code_word (m := ⟨2, 5⟩) (meth := k2m5) (c := k2c5) (by decide +kernel) rfl rfl rfl (by decide +kernel)
set_option maxRecDepth 65536 in
theorem w_c8 : (Jvm.Cond.code ({ cls := "com/example/viewrite/viewrite/io/xml/Place", name := "endLinesAsXml11", desc := "()V" } : Jvm.MethodName) prog_88_method_5_code (1 : Nat) (Option.none : Option Jvm.ClassFile.FieldType)).before args0 about1 = true := code_word (m := ⟨2, 3⟩) (meth := k2m3) (c := k2c3) (by decide +kernel) rfl rfl rfl (by decide +kernel)
def codes1 : List Jvm.Cond := [Jvm.Cond.code x code maxLocals ret, Jvm.Cond.code ({ cls := "com/example/viewrite/viewrite/io/xml/PlaceMayEndLinePinLaw", name := "pick", desc := "(II)I" } : Jvm.MethodName) method_3_code (2 : Nat) (Option.some Jvm.ClassFile.FieldType.int), Jvm.Cond.code ({ cls := "com/example/viewrite/viewrite/io/xml/Place", name := "<init>", desc := "()V" } : Jvm.MethodName) prog_88_method_1_code (1 : Nat) (Option.none : Option Jvm.ClassFile.FieldType), Jvm.Cond.code ({ cls := "java/lang/Object", name := "<init>", desc := "()V" } : Jvm.MethodName) object_method_1_code (1 : Nat) (Option.none : Option Jvm.ClassFile.FieldType), Jvm.Cond.code ({ cls := "com/example/viewrite/viewrite/io/xml/Place", name := "mayEndLine", desc := "(I)Z" } : Jvm.MethodName) prog_88_method_4_code (2 : Nat) (Option.some Jvm.ClassFile.FieldType.boolean), Jvm.Cond.code ({ cls := "com/example/viewrite/viewrite/io/xml/Place", name := "pass", desc := "(I)V" } : Jvm.MethodName) prog_88_method_2_code (3 : Nat) (Option.none : Option Jvm.ClassFile.FieldType), Jvm.Cond.code ({ cls := "com/example/viewrite/viewrite/io/xml/Place", name := "line", desc := "()I" } : Jvm.MethodName) prog_88_method_6_code (1 : Nat) (Option.some Jvm.ClassFile.FieldType.int), Jvm.Cond.code ({ cls := "com/example/viewrite/viewrite/io/xml/Place", name := "column", desc := "()I" } : Jvm.MethodName) prog_88_method_7_code (1 : Nat) (Option.some Jvm.ClassFile.FieldType.int), Jvm.Cond.code ({ cls := "com/example/viewrite/viewrite/io/xml/Place", name := "endLinesAsXml11", desc := "()V" } : Jvm.MethodName) prog_88_method_5_code (1 : Nat) (Option.none : Option Jvm.ClassFile.FieldType)]
set_option maxRecDepth 65536 in
theorem codes_eq : words1.filter isCode = codes1 := rfl
theorem w_codes : ∀ c ∈ words1.filter isCode, c.before args0 about1 = true := by
  rw [codes_eq]
  intro c hc
  simp only [codes1, List.mem_cons, List.not_mem_nil, or_false] at hc
  rcases hc with rfl | rfl | rfl | rfl | rfl | rfl | rfl | rfl | rfl
  · exact w_c0
  · exact w_c1
  · exact w_c2
  · exact w_c3
  · exact w_c4
  · exact w_c5
  · exact w_c6
  · exact w_c7
  · exact w_c8
set_option maxRecDepth 65536 in
theorem w_t1 : (words1.take 24).all (fun c => isCode c || c.before args0 about1) = true := by decide +kernel
set_option maxRecDepth 65536 in
theorem w_t2 : ((words1.drop 24).take 24).all (fun c => isCode c || c.before args0 about1) = true := by decide +kernel
set_option maxRecDepth 65536 in
theorem w_t3 : ((words1.drop 24).drop 24).all (fun c => isCode c || c.before args0 about1) = true := by decide +kernel
theorem w_tables : (allAtoms (Jvm.Cond.code x code maxLocals ret :: tables_1)).before args0 about1 = true := by
  rw [allAtoms_all]
  show words1.all (fun c => c.before args0 about1) = true
  refine all_split ?_ w_codes
  rw [← List.take_append_drop 24 words1, List.all_append, w_t1, ← List.take_append_drop 24 (words1.drop 24), List.all_append, w_t2, w_t3]
  rfl
set_option maxRecDepth 65536 in
theorem w_case : (Jvm.Cond.and given_1 narrow_1).before args0 about1 = true := by decide +kernel
theorem w_applies : (headSpec (Jvm.Cond.code x code maxLocals ret :: tables_1) room_1).applies x e0.platform about1 = true :=
  (Spec.applies_iff w_frames).mpr ⟨w_running, w_runnable, w_alone, w_named, w_hears, w_ripe, w_room, w_tables⟩
theorem atStart : AtStart classFile x code maxLocals ret World_1 tables_1 room_1 Calls_1 rest_1 Pre_1 launch0 p0 e0 about1 theMethod args0 below0 :=
  ⟨lists_1, trivial, launch0.admits_env _ _ _, launch0.least_env, fairChoices_fair.cas, fairChoices_fair.clock, w_frames, w_args, w_heap, w_applies, trivial, trivial, w_case⟩
end start1
theorem witness_1 : WitnessClaimed_1 := ⟨start1.p0, start1.e0, start1.about1, start1.theMethod, start1.args0, start1.below0, start1.atStart⟩
end Jvm.Pilot.@@N@@
