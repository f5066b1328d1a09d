import JvmDerived
import JvmDerived.Pilot.@@N@@Statement
import JvmDerived.Pilot.@@N@@Code
set_option linter.unusedVariables false
set_option linter.unusedSimpArgs false
namespace Jvm.Pilot.@@N@@
open Jvm Jvm.ClassFile Sem Op Lib Jvm.Free Jvm.Stand Jvm.LawKit Jvm.RoadKit Bundle Jvm.Pilot.@@N@@.Jvm.D
section Own
/-! comparisons, said of the integers -/
theorem own_ieq {x y : Int32} (h : x = y) : x.toInt = y.toInt := by rw [h]
theorem own_ine {x y : Int32} (h : ¬ (x = y)) : x.toInt ≠ y.toInt := fun q => h (Int32.toInt_inj.mp q)
theorem own_ilt {x y : Int32} (h : x < y) : x.toInt < y.toInt := Int32.lt_iff_toInt_lt.mp h
theorem own_inl {x y : Int32} (h : ¬ (x < y)) : y.toInt ≤ x.toInt := Int.not_lt.mp fun q => h (Int32.lt_iff_toInt_lt.mpr q)
theorem own_ieq_of {x y : Int32} (h : x.toInt = y.toInt) : x = y := Int32.toInt_inj.mp h
theorem own_ine_of {x y : Int32} (h : x.toInt ≠ y.toInt) : ¬ (x = y) := fun q => h (by rw [q])
theorem own_ilt_of {x y : Int32} (h : x.toInt < y.toInt) : x < y := Int32.lt_iff_toInt_lt.mpr h
theorem own_inl_of {x y : Int32} (h : y.toInt ≤ x.toInt) : ¬ (x < y) := fun q => Int.not_lt.mpr h (Int32.lt_iff_toInt_lt.mp q)
theorem own_leq {x y : Int64} (h : x = y) : x.toInt = y.toInt := by rw [h]
theorem own_lne {x y : Int64} (h : ¬ (x = y)) : x.toInt ≠ y.toInt := fun q => h (Int64.toInt_inj.mp q)
theorem own_llt {x y : Int64} (h : x < y) : x.toInt < y.toInt := Int64.lt_iff_toInt_lt.mp h
theorem own_lnl {x y : Int64} (h : ¬ (x < y)) : y.toInt ≤ x.toInt := Int.not_lt.mp fun q => h (Int64.lt_iff_toInt_lt.mpr q)
theorem own_leq_of {x y : Int64} (h : x.toInt = y.toInt) : x = y := Int64.toInt_inj.mp h
theorem own_lne_of {x y : Int64} (h : x.toInt ≠ y.toInt) : ¬ (x = y) := fun q => h (by rw [q])
theorem own_llt_of {x y : Int64} (h : x.toInt < y.toInt) : x < y := Int64.lt_iff_toInt_lt.mpr h
theorem own_lnl_of {x y : Int64} (h : y.toInt ≤ x.toInt) : ¬ (x < y) := fun q => Int.not_lt.mpr h (Int64.lt_iff_toInt_lt.mp q)
variable {p : Program} {l : Launch} {e : Env} {R : Room} {s : State} {m : MethodId} {args : Array Value} {below : List Frame} {meth : Method} {c : Code} {T : State} {locs : List Loc} {cells slots : Nat} {Z : State} {a0 : Array Value} {h : Heap} {Q : Option Value → Heap → List Loc → Prop} {kc ks : Nat} {S S' : State}
/-- from S the invocation comes back; Q holds of what it returned, of the heap and of the places written -/
def own_Ends (p : Program) (e : Env) (below : List Frame) (s : State) (Q : Option Value → Heap → List Loc → Prop) (kc ks : Nat) (S : State) : Prop :=
  ∃ s₂ o, Steps p.tables e below S s₂ ∧ s₂.status = .running ∧ Ended s₂ below o ∧ ∃ v L, o = .returned v ∧ Q v s₂.heap L ∧ FrameEnd s o s₂ L kc ks
theorem own_up (st : ∀ t, Steps p.tables e below S' t → Steps p.tables e below S t) (k : own_Ends p e below s Q kc ks S') : own_Ends p e below s Q kc ks S := by
  obtain ⟨t, o, h1, h2⟩ := k
  exact ⟨t, o, st t h1, h2⟩
theorem own_met {y : MethodName} {code : ByteArray} {maxL : Nat} {ret : Option FieldType} {rm : Room} {as' : Array Value} {ws : List Jvm.Cond} {L0 : Array Slot}
    (hpl : plainFor y = true) (hef : ∀ m, entryFrame m as' maxL = mkF m 0 L0 [])
    (body : ∀ (p : Program) (e : Env) (s : State) (m : MethodId) (below : List Frame) (meth : Method) (c : Code) (T : State), p.tables.exec = Jvm.exec → c.code = code → c.maxLocals = maxL → s.vm.findClass y.cls = some m.cls → meth.name = y.name → meth.sig.returnType = ret → meth.locks = false → Z.Warmed39 s.vm → T.heap = h → Stand p l e rm s m as' below meth c T [] 0 0 → own_Ends p e below s Q rm.cells rm.slots (T.setTop (mkF m 0 L0 []))) :
    MetFree l y (head1 (Jvm.Cond.code y code maxL ret :: ws) rm) (fun a U => a = as' ∧ Z.Warmed39 U.vm ∧ U.heap = h) (fun _ _ _ _ _ => True) (fun _ U o U' => ∃ v L, o = .returned v ∧ Q v U'.heap L ∧ FrameEnd U o U' L rm.cells rm.slots) := by
  refine MetFree.of_bodySF hpl hisR ?_
  intro p e s m args below meth c s₁ Bd hml hP hK
  obtain ⟨rfl, hZ, hh⟩ := hP
  rw [hef m]
  exact body p e s m below meth c s₁ Bd.exec Bd.bytes hml (findClass_of_methodNamed Bd.named) (name_of_methodNamed Bd.named Bd.method).1 Bd.returns (BodyLoose.notSynchronized Bd) hZ (by rw [← hh, Bd.state]; rfl) (Stand.of_body Bd)
/-! returns -/
theorem own_iret (X : Stand p l e R s m args below meth c T locs cells slots) (hx : p.tables.exec = Jvm.exec) {pc : Nat} {Ls : Array Slot} {z : Int32} {rest : List Value} (hret : meth.sig.returnType = some .int) (hd : decode c.code pc = .ok (.ireturn, 1)) {fs : List Frame}
    (hl : ∀ (f : JFrame) (acts : List Action), f.method = m → f.locked = none → f.entered = [] → (doReturn e (T.setTop f) acts (some (.int z))).1 = T.setFrames fs) : Steps p.tables e below (T.setTop (mkF m pc Ls (.int z :: rest))) (T.setFrames fs) :=
  retOut X hx hret rfl (Or.inl ⟨rfl, Or.inl rfl, _, rfl⟩) hd hl
theorem own_retI (X : Stand p l e R s m args below meth c T locs cells slots) (hx : p.tables.exec = Jvm.exec) (hlk : meth.locks = false) (hret : meth.sig.returnType = some .int) {pc : Nat} {Ls : Array Slot} {z : Int32} {rest : List Value} (hd : decode c.code pc = .ok (.ireturn, 1)) (hc : cells ≤ kc) (hs : slots ≤ ks) (hq : Q (some (.int z)) T.heap locs) :
    own_Ends p e below s Q kc ks (T.setTop (mkF m pc Ls (.int z :: rest))) := by
  obtain ⟨fs, hr, hrun, hended, hW, hsame⟩ := X.leave (v := some (.int z)) (fun q => by rw [hret] at q; cases q) hlk
  exact ⟨_, _, own_iret X hx hret hd hr, hrun, hended, _, _, rfl, hq, ⟨_, rfl⟩, hW, hsame.mono hc hs⟩
theorem own_retN (X : Stand p l e R s m args below meth c T locs cells slots) (hx : p.tables.exec = Jvm.exec) (hlk : meth.locks = false) {t : FieldType} (hret : meth.sig.returnType = some t) (ht : t = .boolean ∨ t = .byte ∨ t = .char ∨ t = .short) {pc : Nat} {Ls : Array Slot} {z z' : Int32} {rest : List Value} (hn : nar t z = z') (hd : decode c.code pc = .ok (.ireturn, 1)) (hc : cells ≤ kc) (hs : slots ≤ ks) (hq : Q (some (.int z')) T.heap locs) :
    own_Ends p e below s Q kc ks (T.setTop (mkF m pc Ls (.int z :: rest))) := by
  subst hn
  obtain ⟨fs, hr, hrun, hended, hW, hsame⟩ := X.leave (v := some (.int (nar t z))) (fun q => by rw [hret] at q; cases q) hlk
  exact ⟨_, _, retN X hx hret ht hd hr, hrun, hended, _, _, rfl, hq, ⟨_, rfl⟩, hW, hsame.mono hc hs⟩
theorem own_retL (X : Stand p l e R s m args below meth c T locs cells slots) (hx : p.tables.exec = Jvm.exec) (hlk : meth.locks = false) (hret : meth.sig.returnType = some .long) {pc : Nat} {Ls : Array Slot} {z : Int64} {rest : List Value} (hd : decode c.code pc = .ok (.lreturn, 1)) (hc : cells ≤ kc) (hs : slots ≤ ks) (hq : Q (some (.long z)) T.heap locs) :
    own_Ends p e below s Q kc ks (T.setTop (mkF m pc Ls (.long z :: rest))) := by
  obtain ⟨fs, hr, hrun, hended, hW, hsame⟩ := X.leave (v := some (.long z)) (fun q => by rw [hret] at q; cases q) hlk
  exact ⟨_, _, retOut X hx hret rfl (Or.inr (Or.inl ⟨rfl, rfl, _, rfl⟩)) hd hr, hrun, hended, _, _, rfl, hq, ⟨_, rfl⟩, hW, hsame.mono hc hs⟩
theorem own_retA (X : Stand p l e R s m args below meth c T locs cells slots) (hx : p.tables.exec = Jvm.exec) (hlk : meth.locks = false) {t : FieldType} (hret : meth.sig.returnType = some t) (ht : t.isReference = true) {pc : Nat} {Ls : Array Slot} {a : Addr} {rest : List Value} (hn : narrow t (.ref a) = .ref a) (hd : decode c.code pc = .ok (.areturn, 1)) (hc : cells ≤ kc) (hs : slots ≤ ks) (hq : Q (some (.ref a)) T.heap locs) :
    own_Ends p e below s Q kc ks (T.setTop (mkF m pc Ls (.ref a :: rest))) := by
  obtain ⟨fs, hr, hrun, hended, hW, hsame⟩ := X.leave (v := some (.ref a)) (fun q => by rw [hret] at q; cases q) hlk
  exact ⟨_, _, retOut X hx hret hn (Or.inr (Or.inr (Or.inr (Or.inr ⟨rfl, ht, rfl⟩)))) hd hr, hrun, hended, _, _, rfl, hq, ⟨_, rfl⟩, hW, hsame.mono hc hs⟩
theorem own_retV (X : Stand p l e R s m args below meth c T locs cells slots) (hx : p.tables.exec = Jvm.exec) (hlk : meth.locks = false) (hret : meth.sig.returnType = none) {pc : Nat} {Ls : Array Slot} (hd : decode c.code pc = .ok (.return_, 1)) (hc : cells ≤ kc) (hs : slots ≤ ks) (hq : Q none T.heap locs) :
    own_Ends p e below s Q kc ks (T.setTop (mkF m pc Ls [])) := by
  obtain ⟨fs, hr, hrun, hended, hW, hsame⟩ := X.leave (v := none) (fun _ => rfl) hlk
  exact ⟨_, _, X.returnOut hx hret hd hr, hrun, hended, _, _, rfl, hq, ⟨_, rfl⟩, hW, hsame.mono hc hs⟩
/-! calls -/
theorem own_callS (X : Stand p l e R s m args below meth c T locs cells slots) (hx : p.tables.exec = Jvm.exec) (hZ : Z.Warmed39 s.vm) {own : String} {index : Nat} {y : MethodName} {bytes : ByteArray} {maxL : Nat} {ret : Option FieldType} {rm : Room} {as' : Array Value} {Qc : Option Value → Heap → List Loc → Prop}
    (hown : s.vm.findClass own = some m.cls) (w1 : (Jvm.Cond.methodLink own index y).before a0 Z = true) (w2 : (Jvm.Cond.static y).before a0 Z = true) (w3 : (Jvm.Cond.initialized y.cls).before a0 Z = true) (w4 : (Jvm.Cond.code y bytes maxL ret).before a0 Z = true)
    (hy : y.cls ≠ "java/lang/invoke/MethodHandle" ∧ y.cls ≠ "java/lang/invoke/VarHandle") (eT : T.heap = h)
    (hM : MetFree l y (head1 [Jvm.Cond.code y bytes maxL ret] rm) (fun a U => a = as' ∧ Z.Warmed39 U.vm ∧ U.heap = h) (fun _ _ _ _ _ => True) (fun _ U o U' => ∃ v L, o = .returned v ∧ Qc v U'.heap L ∧ FrameEnd U o U' L rm.cells rm.slots))
    (W : Nat) {g : JFrame} (argsL rest : List Value) (hdg : decode c.code g.pc = .ok (.invokestatic index, 3)) (hlen : ∀ sig, parseMethodDescriptor y.desc = some sig → argsL.length = sig.parameters.length)
    (hf : rm.frames + 1 ≤ R.frames) (hl : W + (maxL + 11) + rm.locals ≤ R.locals) (hc : cells + rm.cells ≤ R.cells) (hs : slots + rm.slots ≤ R.slots)
    (hg : g.method = m) (hsize : g.locals.size = c.maxLocals) (hstack : g.stack = argsL.reverse ++ rest) (hW : 2 * g.monitorRoom + (rest.map fun v => v.category).sum ≤ W) (has : argsL.toArray = as')
    (k : ∀ T' L v, Stand p l e R s m args below meth c T' (locs ++ L) (cells + rm.cells) (slots + rm.slots) → Qc v T'.heap L → own_Ends p e below s Q kc ks (T'.setTop { g with pc := g.pc + 3, stack := v.toList ++ rest })) :
    own_Ends p e below s Q kc ks (T.setTop g) := by
  subst has
  obtain ⟨v, _, ⟨T', L', c', n'⟩, -, X', ⟨L, hQ, l1, y1, z1⟩, st⟩ := Jvm.LawKit.callS X hx hown (mvT hZ w1) (mvT hZ w2) (mvT hZ w3) (mvT hZ w4) hy (backOf (W := W) hM hZ w4 w3 hf hl) hg hsize hlen hstack hW hdg (fun _ _ => ⟨rfl, eT, hc, hs⟩)
  dsimp only [Pt.U, Pt.locs, Pt.cells, Pt.slots] at X' l1 y1 z1 st hQ
  subst l1 y1 z1
  exact own_up st (k T' L v X' hQ)
theorem own_callI (X : Stand p l e R s m args below meth c T locs cells slots) (hx : p.tables.exec = Jvm.exec) (hZ : Z.Warmed39 s.vm) {own : String} {index : Nat} {y : MethodName} {bytes : ByteArray} {maxL : Nat} {rm : Room} {as' : Array Value} {Qc : Option Value → Heap → List Loc → Prop}
    (hy1 : y.name = "<init>") (hown : s.vm.findClass own = some m.cls) (w1 : (Jvm.Cond.methodLink own index y).before a0 Z = true) (w2 : (Jvm.Cond.instanceMethod y).before a0 Z = true) (w3 : (Jvm.Cond.initialized y.cls).before a0 Z = true) (w4 : (Jvm.Cond.code y bytes maxL none).before a0 Z = true)
    (hy : y.cls ≠ "java/lang/invoke/MethodHandle" ∧ y.cls ≠ "java/lang/invoke/VarHandle") (eT : T.heap = h)
    (hM : MetFree l y (head1 [Jvm.Cond.code y bytes maxL none] rm) (fun a U => a = as' ∧ Z.Warmed39 U.vm ∧ U.heap = h) (fun _ _ _ _ _ => True) (fun _ U o U' => ∃ v L, o = .returned v ∧ Qc v U'.heap L ∧ FrameEnd U o U' L rm.cells rm.slots))
    (W : Nat) {g : JFrame} (a : Addr) (argsL rest : List Value) (hdg : decode c.code g.pc = .ok (.invokespecial index, 3)) (hlen : ∀ sig, parseMethodDescriptor y.desc = some sig → argsL.length = sig.parameters.length)
    (hf : rm.frames + 1 ≤ R.frames) (hl : W + (maxL + 11) + rm.locals ≤ R.locals) (hc : cells + rm.cells ≤ R.cells) (hs : slots + rm.slots ≤ R.slots)
    (hg : g.method = m) (hsize : g.locals.size = c.maxLocals) (hstack : g.stack = argsL.reverse ++ .ref a :: rest) (hW : 2 * g.monitorRoom + (rest.map fun v => v.category).sum ≤ W) (has : (.ref a :: argsL).toArray = as')
    (k : ∀ T' L v, Stand p l e R s m args below meth c T' (locs ++ L) (cells + rm.cells) (slots + rm.slots) → Qc v T'.heap L → own_Ends p e below s Q kc ks (T'.setTop { g with pc := g.pc + 3, stack := v.toList ++ rest })) :
    own_Ends p e below s Q kc ks (T.setTop g) := by
  subst has
  obtain ⟨v, _, ⟨T', L', c', n'⟩, -, X', ⟨L, hQ, l1, y1, z1⟩, st⟩ := X.specialBack hx hy1 hown (mvT hZ w1) (mvT hZ w2) (mvT hZ w4) hy (backOf (W := W) hM hZ w4 w3 hf hl) hg hsize (Steps.refl _) hlen hstack hW hdg (fun _ _ => ⟨rfl, eT, hc, hs⟩)
  dsimp only [Pt.U, Pt.locs, Pt.cells, Pt.slots] at X' l1 y1 z1 st hQ
  subst l1 y1 z1
  exact own_up (fun t q => st.trans q) (k T' L v X' hQ)
theorem own_callV (X : Stand p l e R s m args below meth c T locs cells slots) (hx : p.tables.exec = Jvm.exec) (hZ : Z.Warmed39 s.vm) {own C : String} {index : Nat} {y : MethodName} {bytes : ByteArray} {maxL : Nat} {ret : Option FieldType} {rm : Room} {as' : Array Value} {Qc : Option Value → Heap → List Loc → Prop}
    (hown : s.vm.findClass own = some m.cls) (w1 : (Jvm.Cond.methodLink own index y).before a0 Z = true) (w2 : (Jvm.Cond.declares y).before a0 Z = true) (w5 : (Jvm.Cond.selects C y y).before a0 Z = true) (w6 : (Jvm.Cond.instanceMethod y).before a0 Z = true) (w3 : (Jvm.Cond.initialized y.cls).before a0 Z = true) (w4 : (Jvm.Cond.code y bytes maxL ret).before a0 Z = true)
    (hy : y.cls ≠ "java/lang/invoke/MethodHandle" ∧ y.cls ≠ "java/lang/invoke/VarHandle") (eT : T.heap = h)
    (hM : MetFree l y (head1 [Jvm.Cond.code y bytes maxL ret] rm) (fun a U => a = as' ∧ Z.Warmed39 U.vm ∧ U.heap = h) (fun _ _ _ _ _ => True) (fun _ U o U' => ∃ v L, o = .returned v ∧ Qc v U'.heap L ∧ FrameEnd U o U' L rm.cells rm.slots))
    (W : Nat) {g : JFrame} {a : Addr} (E : Exa Z h a C) (argsL rest : List Value) (hdg : decode c.code g.pc = .ok (.invokevirtual index, 3)) (hlen : ∀ sig, parseMethodDescriptor y.desc = some sig → argsL.length = sig.parameters.length)
    (hf : rm.frames + 1 ≤ R.frames) (hl : W + (maxL + 11) + rm.locals ≤ R.locals) (hc : cells + rm.cells ≤ R.cells) (hs : slots + rm.slots ≤ R.slots)
    (hg : g.method = m) (hsize : g.locals.size = c.maxLocals) (hstack : g.stack = argsL.reverse ++ .ref a :: rest) (hW : 2 * g.monitorRoom + (rest.map fun v => v.category).sum ≤ W) (has : (.ref a :: argsL).toArray = as')
    (k : ∀ T' L v, Stand p l e R s m args below meth c T' (locs ++ L) (cells + rm.cells) (slots + rm.slots) → Qc v T'.heap L → own_Ends p e below s Q kc ks (T'.setTop { g with pc := g.pc + 3, stack := v.toList ++ rest })) :
    own_Ends p e below s Q kc ks (T.setTop g) := by
  subst has
  obtain ⟨cq, kq, qa, qb, qc⟩ := isOf hZ eT E
  obtain ⟨v, _, ⟨T', L', c', n'⟩, -, X', ⟨L, hQ, l1, y1, z1⟩, st⟩ := X.virtualBack hx hown (mvT hZ w1) (mvT hZ w2) (notFace_of_selects (args := #[]) (mvT hZ w5)) (mvT hZ w5) (mvT hZ w6) hy (backOf (W := W) hM hZ w4 w3 hf hl) qa qc hg hsize (Steps.refl _) hlen hstack hW hdg (fun _ _ => ⟨rfl, eT, hc, hs⟩)
  dsimp only [Pt.U, Pt.locs, Pt.cells, Pt.slots] at X' l1 y1 z1 st hQ
  subst l1 y1 z1
  exact own_up (fun t q => st.trans q) (k T' L v X' hQ)
/-- the link names y in a class that inherits it from 'owner' -/
theorem own_callU (X : Stand p l e R s m args below meth c T locs cells slots) (hx : p.tables.exec = Jvm.exec) (hZ : Z.Warmed39 s.vm) {own C owner : String} {index : Nat} {x y : MethodName} {bytes : ByteArray} {maxL : Nat} {ret : Option FieldType} {rm : Room} {as' : Array Value} {Qc : Option Value → Heap → List Loc → Prop}
    (hown : s.vm.findClass own = some m.cls) (w1 : (Jvm.Cond.methodLink own index x).before a0 Z = true) (w7 : (Jvm.Cond.sameMethod x.cls owner x.name x.desc).before a0 Z = true) (w2 : (Jvm.Cond.declares ⟨owner, x.name, x.desc⟩).before a0 Z = true) (w5 : (Jvm.Cond.selects C x y).before a0 Z = true) (w6 : (Jvm.Cond.instanceMethod y).before a0 Z = true) (w3 : (Jvm.Cond.initialized y.cls).before a0 Z = true) (w4 : (Jvm.Cond.code y bytes maxL ret).before a0 Z = true)
    (hy : owner ≠ "java/lang/invoke/MethodHandle" ∧ owner ≠ "java/lang/invoke/VarHandle") (eT : T.heap = h)
    (hM : MetFree l y (head1 [Jvm.Cond.code y bytes maxL ret] rm) (fun a U => a = as' ∧ Z.Warmed39 U.vm ∧ U.heap = h) (fun _ _ _ _ _ => True) (fun _ U o U' => ∃ v L, o = .returned v ∧ Qc v U'.heap L ∧ FrameEnd U o U' L rm.cells rm.slots))
    (W : Nat) {g : JFrame} {a : Addr} (E : Exa Z h a C) (argsL rest : List Value) (hdg : decode c.code g.pc = .ok (.invokevirtual index, 3)) (hlen : ∀ sig, parseMethodDescriptor x.desc = some sig → argsL.length = sig.parameters.length)
    (hf : rm.frames + 1 ≤ R.frames) (hl : W + (maxL + 11) + rm.locals ≤ R.locals) (hc : cells + rm.cells ≤ R.cells) (hs : slots + rm.slots ≤ R.slots)
    (hg : g.method = m) (hsize : g.locals.size = c.maxLocals) (hstack : g.stack = argsL.reverse ++ .ref a :: rest) (hW : 2 * g.monitorRoom + (rest.map fun v => v.category).sum ≤ W) (has : (.ref a :: argsL).toArray = as')
    (k : ∀ T' L v, Stand p l e R s m args below meth c T' (locs ++ L) (cells + rm.cells) (slots + rm.slots) → Qc v T'.heap L → own_Ends p e below s Q kc ks (T'.setTop { g with pc := g.pc + 3, stack := v.toList ++ rest })) :
    own_Ends p e below s Q kc ks (T.setTop g) := by
  subst has
  obtain ⟨cq, kq, qa, qb, qc⟩ := isOf hZ eT E
  obtain ⟨v, _, ⟨T', L', c', n'⟩, -, X', ⟨L, hQ, l1, y1, z1⟩, st⟩ := X.virtualBackUp hx hown (mvT hZ w1) (mvT hZ w7) (mvT hZ w2) hy (mvT hZ w5) (mvT hZ w6) (backOf (W := W) hM hZ w4 w3 hf hl) qa qc hg hsize (Steps.refl _) hlen hstack hW hdg (fun _ _ => ⟨rfl, eT, hc, hs⟩)
  dsimp only [Pt.U, Pt.locs, Pt.cells, Pt.slots] at X' l1 y1 z1 st hQ
  subst l1 y1 z1
  exact own_up (fun t q => st.trans q) (k T' L v X' hQ)
theorem own_init (X : Stand p l e R s m args below meth c T locs cells slots) (hx : p.tables.exec = Jvm.exec) (hZ : Z.Warmed39 s.vm) {own : String} {idx : Nat} (hown : s.vm.findClass own = some m.cls) (w1 : (Jvm.Cond.methodLink own idx Lib.objectInit).before a0 Z = true) (w2 : (Jvm.Cond.instanceMethod Lib.objectInit).before a0 Z = true)
    (w3 : (Jvm.Cond.code Lib.objectInit ⟨#[0xb1]⟩ 1 none).before a0 Z = true) (eT : T.heap = h) (W : Nat) {g g' : JFrame} {a : Addr} {rest : List Value} (hd : decode c.code g.pc = .ok (.invokespecial idx, 3)) (hf : 1 ≤ R.frames) (hl : W + 12 ≤ R.locals)
    (hg : g.method = m) (hsize : g.locals.size = c.maxLocals) (hs : g.stack = .ref a :: rest) (hW : 2 * g.monitorRoom + (rest.map fun v => v.category).sum ≤ W) (hg' : { g with pc := g.pc + 3, stack := rest } = g')
    (k : ∀ T', Stand p l e R s m args below meth c T' locs cells slots → T'.heap = h → own_Ends p e below s Q kc ks (T'.setTop g')) : own_Ends p e below s Q kc ks (T.setTop g) := by
  subst hg'
  obtain ⟨T', X', e', st⟩ := initO X hx hZ hown w1 w2 w3 eT hg hsize hs hd hf hW hl
  exact own_up st (k T' X' e')
/-! the heap -/
theorem own_new (X : Stand p l e R s m args below meth c T locs cells slots) (hx : p.tables.exec = Jvm.exec) (hZ : Z.Warmed39 s.vm) {own C : String} {index n : Nat} (hown : s.vm.findClass own = some m.cls) (w : (Jvm.Cond.classLink own index C).before a0 Z = true) (wi : (Jvm.Cond.instantiable C n).before a0 Z = true) (wz : (Jvm.Cond.initialized C).before a0 Z = true) (eT : T.heap = h)
    {g : JFrame} (hg : g.method = m) (hd : decode c.code g.pc = .ok (.new index, 3)) (hc : cells + 1 ≤ R.cells) (hl : slots + n ≤ R.slots)
    (k : ∀ T' h' b, b = h.size → Stand p l e R s m args below meth c T' locs (cells + 1) (slots + n) → T'.heap = h' → Ext h h' → Exa Z h' b C → (∀ {O nm d : String} {ty : FieldType}, Laid Z a0 C O nm d → parseFieldDescriptor d = some ty → Fld Z h' b O nm d (defaultValue ty)) → own_Ends p e below s Q kc ks (T'.setTop { g with pc := g.pc + 3, stack := .ref b :: g.stack })) : own_Ends p e below s Q kc ks (T.setTop g) := by
  obtain ⟨T', h', X', e', E, A, D, -, st⟩ := newO X hx hZ hown w wi wz eT hg hd hc hl
  exact own_up st (k T' h' _ rfl X' e' E A D)
theorem own_get (X : Stand p l e R s m args below meth c T locs cells slots) (hx : p.tables.exec = Jvm.exec) (hZ : Z.Warmed39 s.vm) {own R0 O n d : String} {index : Nat} (hown : s.vm.findClass own = some m.cls) (w : (Jvm.Cond.fieldLink own index R0 n d).before a0 Z = true) (via : Via Z R0 O n d)
    (eT : T.heap = h) {a : Addr} {v : Value} (F : Fld Z h a O n d v) {g g' : JFrame} {rest : List Value} (hd : decode c.code g.pc = .ok (.getfield index, 3)) (hg : g.method = m) (hs : g.stack = .ref a :: rest) (hg' : { g with pc := g.pc + 3, stack := v :: rest } = g')
    (k : ∀ T', Stand p l e R s m args below meth c T' locs cells slots → T'.heap = h → own_Ends p e below s Q kc ks (T'.setTop g')) : own_Ends p e below s Q kc ks (T.setTop g) := by
  subst hg'
  obtain ⟨T', X', e', st⟩ := getF X hx hZ hown (host := "") (Or.inl w) via eT F hg hs hd
  exact own_up st (k T' X' e')
theorem own_gets (X : Stand p l e R s m args below meth c T locs cells slots) (hx : p.tables.exec = Jvm.exec) (hZ : Z.Warmed39 s.vm) {own R0 O n d : String} {index : Nat} (hown : s.vm.findClass own = some m.cls) (w : (Jvm.Cond.fieldLink own index R0 n d).before a0 Z = true) (via : Via Z R0 O n d)
    (eT : T.heap = h) {v : Value} (F : Sta Z h O n d v) {g g' : JFrame} (hd : decode c.code g.pc = .ok (.getstatic index, 3)) (hg : g.method = m) (hg' : { g with pc := g.pc + 3, stack := v :: g.stack } = g')
    (k : ∀ T', Stand p l e R s m args below meth c T' locs cells slots → T'.heap = h → own_Ends p e below s Q kc ks (T'.setTop g')) : own_Ends p e below s Q kc ks (T.setTop g) := by
  subst hg'
  obtain ⟨T', X', e', st⟩ := getS2 X hx hZ hown (host := "") (Or.inl w) via eT F hg hd
  exact own_up st (k T' X' e')
theorem own_put (X : Stand p l e R s m args below meth c T locs cells slots) (hx : p.tables.exec = Jvm.exec) (hZ : Z.Warmed39 s.vm) {own R0 O n d C : String} {index kk : Nat} (ty : FieldType) (hown : s.vm.findClass own = some m.cls) (w : (Jvm.Cond.fieldLink own index R0 n d).before a0 Z = true) (via : Via Z R0 O n d)
    (eT : T.heap = h) {a : Addr} {v v' old : Value} (F : Fld Z h a O n d old) (E : Exa Z h a C) (L : (Jvm.Cond.lays C O n d).before a0 Z = true ∨ ((Jvm.Cond.laysFinal C O n d).before a0 Z = true ∧ own = O ∧ meth.name = "<init>")) (wi : (Jvm.Cond.instantiable C kk).before a0 Z = true)
    (hty : parseFieldDescriptor d = some ty) (hn : narrow ty v = v') (hf : fits ty v' = true) {g g' : JFrame} {rest : List Value} (hd : decode c.code g.pc = .ok (.putfield index, 3)) (hg : g.method = m) (hs : g.stack = v :: .ref a :: rest) (hg' : { g with pc := g.pc + 3, stack := rest } = g')
    (k : ∀ T' h', Stand p l e R s m args below meth c T' (locs ++ [⟨a, Jvm.RoadKit.slotOf Z O n d⟩]) cells slots → T'.heap = h' → Wr h h' a (Jvm.RoadKit.slotOf Z O n d) v' → own_Ends p e below s Q kc ks (T'.setTop g')) : own_Ends p e below s Q kc ks (T.setTop g) := by
  subst hg'
  obtain ⟨T', h', X', e', W, st⟩ := putFN X hx hZ hown w via eT F E L wi hty hn hf hg hs hd
  exact own_up st (k T' h' X' e' W)
theorem own_fr {k : Nat} {L : List Loc} {a : Addr} {sl : Nat} (N : Fr k L) (q : k ≤ a) : Fr k (L ++ [⟨a, sl⟩]) := N.app fun y hy => by cases List.mem_singleton.mp hy; exact q
/-! arrays: the list of the values -/
def own_Al (Z : State) (h : Heap) (a : Addr) (ty : FieldType) (vs : List Value) : Prop := ∃ c : Cell, Arr Z h a c ty ∧ c.slots.toList = vs ∧ vs.length < 2 ^ 31
theorem own_Al_lt {h : Heap} {a : Addr} {ty : FieldType} {vs : List Value} (A : own_Al Z h a ty vs) : a < h.size := by obtain ⟨c, A, -⟩ := A; exact A.lt
theorem own_Al_ext {h h' : Heap} {a : Addr} {ty : FieldType} {vs : List Value} (E : Ext h h') (A : own_Al Z h a ty vs) : own_Al Z h' a ty vs := by obtain ⟨c, A, r⟩ := A; exact ⟨c, A.ext E, r⟩
theorem own_Al_oth {h h' : Heap} {a b : Addr} {sl : Nat} {v : Value} {ty : FieldType} {vs : List Value} (W : Wr h h' b sl v) (A : own_Al Z h a ty vs) (ne : a ≠ b) : own_Al Z h' a ty vs := by obtain ⟨c, A, r⟩ := A; exact ⟨c, A.other W ne, r⟩
theorem own_Al_keep {h h' : Heap} {a : Addr} {ws : List Addr} {ty : FieldType} {vs : List Value} (K : Keep h h' ws) (A : own_Al Z h a ty vs) (ne : a ∉ ws) : own_Al Z h' a ty vs := by obtain ⟨c, A, r⟩ := A; exact ⟨c, ⟨K.2.1 a c A.1 ne, A.2⟩, r⟩
theorem own_nat {j : Int32} {i : Nat} (hj : j.toInt = i) : ¬ j < 0 ∧ j.toNatClampNeg = i := by
  have h0 : ¬ j < 0 := by rw [Int32.lt_iff_toInt_lt, hj]; have : (0 : Int32).toInt = 0 := rfl; omega
  refine ⟨h0, ?_⟩
  have := nat_of h0
  omega
theorem own_newa (X : Stand p l e R s m args below meth c T locs cells slots) (hx : p.tables.exec = Jvm.exec) (hZ : Z.Warmed39 s.vm) {aty : ArrayType} {ty : FieldType} (hty : newarray.typeOf aty = ty) (w : (Jvm.Cond.arrayClass ty).before a0 Z = true) (eT : T.heap = h) {g : JFrame} {z : Int32} (nn : Nat) {rest : List Value} (hd : decode c.code g.pc = .ok (.newarray aty, 2)) (hn : z.toInt = nn) (cap : Nat) (hcap : nn ≤ cap) (hb : cap * 8 ≤ 536870912) (hc : cells + 1 ≤ R.cells) (hl : slots + cap ≤ R.slots)
    (hg : g.method = m) (hs : g.stack = .int z :: rest)
    (k : ∀ T' h' b, b = h.size → Stand p l e R s m args below meth c T' locs (cells + 1) (slots + cap) → T'.heap = h' → Ext h h' → own_Al Z h' b ty (List.replicate nn (defaultValue ty)) → own_Ends p e below s Q kc ks (T'.setTop { g with pc := g.pc + 2, stack := .ref b :: rest })) : own_Ends p e below s Q kc ks (T.setTop g) := by
  subst hty
  obtain ⟨h0, h1⟩ := own_nat hn
  obtain ⟨T', h', cA, X', e', E, A, st⟩ := newP X hx hZ w eT hg hd hs h0 (cap := cap) (by omega) hb hc hl
  exact own_up st (k T' h' _ rfl X' e' E ⟨_, A, by simp [newA, h1], by simp; omega⟩)
theorem own_in {ty : FieldType} {vs : List Value} {cl : Cell} {j : Int32} {i : Nat} (hv : cl.slots.toList = vs) (hj : j.toInt = i) (hi : i < vs.length) : ¬ (j < 0 ∨ cl.slots.size ≤ j.toNatClampNeg) := by
  obtain ⟨h0, h1⟩ := own_nat hj
  subst hv
  rintro (q | q)
  · exact h0 q
  · rw [h1] at q; simp at hi; omega
theorem own_Al_set {h h' : Heap} {a : Addr} {cl : Cell} {ty : FieldType} {vs : List Value} {j : Int32} {i : Nat} {v : Value} (A : Arr Z h a cl ty) (hv : cl.slots.toList = vs) (hl : vs.length < 2 ^ 31) (hj : j.toInt = i) (W : Wr h h' a j.toNatClampNeg v) : own_Al Z h' a ty (vs.set i v) := by
  obtain ⟨h0, h1⟩ := own_nat hj
  rw [h1] at W
  exact ⟨_, A.same W, by simp [Cell.setSlot, hv], by simpa using hl⟩
theorem own_sti (X : Stand p l e R s m args below meth c T locs cells slots) (hx : p.tables.exec = Jvm.exec) (hZ : Z.Warmed39 s.vm) (eT : T.heap = h) {a : Addr} {vs : List Value} (A : own_Al Z h a .int vs) {j x : Int32} (i : Nat) {g g' : JFrame} {rest : List Value} (hd : decode c.code g.pc = .ok (.iastore, 1)) (hj : j.toInt = i) (hi : i < vs.length) (hg : g.method = m) (hs : g.stack = .int x :: .int j :: .ref a :: rest) (hg' : { g with pc := g.pc + 1, stack := rest } = g')
    (k : ∀ T' h', Stand p l e R s m args below meth c T' (locs ++ [⟨a, j.toNatClampNeg⟩]) cells slots → T'.heap = h' → Wr h h' a j.toNatClampNeg (.int x) → own_Al Z h' a .int (vs.set i (.int x)) → own_Ends p e below s Q kc ks (T'.setTop g')) : own_Ends p e below s Q kc ks (T.setTop g) := by
  subst hg'
  obtain ⟨cl, A, hv, hl⟩ := A
  obtain ⟨T', h', X', e', W, st⟩ := stI X hx hZ eT A (own_in (ty := .int) hv hj hi) hg hs hd
  exact own_up st (k T' h' X' e' W (own_Al_set A hv hl hj W))
theorem own_stj (X : Stand p l e R s m args below meth c T locs cells slots) (hx : p.tables.exec = Jvm.exec) (hZ : Z.Warmed39 s.vm) (eT : T.heap = h) {a : Addr} {vs : List Value} (A : own_Al Z h a .long vs) {j : Int32} {x : Int64} (i : Nat) {g g' : JFrame} {rest : List Value} (hd : decode c.code g.pc = .ok (.lastore, 1)) (hj : j.toInt = i) (hi : i < vs.length) (hg : g.method = m) (hs : g.stack = .long x :: .int j :: .ref a :: rest) (hg' : { g with pc := g.pc + 1, stack := rest } = g')
    (k : ∀ T' h', Stand p l e R s m args below meth c T' (locs ++ [⟨a, j.toNatClampNeg⟩]) cells slots → T'.heap = h' → Wr h h' a j.toNatClampNeg (.long x) → own_Al Z h' a .long (vs.set i (.long x)) → own_Ends p e below s Q kc ks (T'.setTop g')) : own_Ends p e below s Q kc ks (T.setTop g) := by
  subst hg'
  obtain ⟨cl, A, hv, hl⟩ := A
  obtain ⟨T', h', X', e', W, st⟩ := stJ X hx hZ eT A (own_in (ty := .long) hv hj hi) hg hs hd
  exact own_up st (k T' h' X' e' W (own_Al_set A hv hl hj W))
theorem own_stb (X : Stand p l e R s m args below meth c T locs cells slots) (hx : p.tables.exec = Jvm.exec) (hZ : Z.Warmed39 s.vm) (eT : T.heap = h) {a : Addr} {vs : List Value} (A : own_Al Z h a .byte vs) {j x : Int32} (i : Nat) {g g' : JFrame} {rest : List Value} (hd : decode c.code g.pc = .ok (.bastore, 1)) (hj : j.toInt = i) (hi : i < vs.length) (hg : g.method = m) (hs : g.stack = .int x :: .int j :: .ref a :: rest) (hg' : { g with pc := g.pc + 1, stack := rest } = g')
    (k : ∀ T' h', Stand p l e R s m args below meth c T' (locs ++ [⟨a, j.toNatClampNeg⟩]) cells slots → T'.heap = h' → Wr h h' a j.toNatClampNeg (.int (nar .byte x)) → own_Al Z h' a .byte (vs.set i (.int (nar .byte x))) → own_Ends p e below s Q kc ks (T'.setTop g')) : own_Ends p e below s Q kc ks (T.setTop g) := by
  subst hg'
  obtain ⟨cl, A, hv, hl⟩ := A
  obtain ⟨T', h', X', e', W, st⟩ := stB X hx hZ eT A (own_in (ty := .byte) hv hj hi) hg hs hd
  exact own_up st (k T' h' X' e' W (own_Al_set A hv hl hj W))
theorem own_at {vs : List Value} {cl : Cell} {j : Int32} {i : Nat} {v : Value} (hv : cl.slots.toList = vs) (hj : j.toInt = i) (hi : vs[i]? = some v) : cl.slots[j.toNatClampNeg]? = some v := by
  rw [(own_nat hj).2, ← Array.getElem?_toList, hv]; exact hi
theorem own_ldi (X : Stand p l e R s m args below meth c T locs cells slots) (hx : p.tables.exec = Jvm.exec) (hZ : Z.Warmed39 s.vm) (eT : T.heap = h) {a : Addr} {vs : List Value} (A : own_Al Z h a .int vs) {j : Int32} {v : Value} (i : Nat) {g g' : JFrame} {rest : List Value} (hd : decode c.code g.pc = .ok (.iaload, 1)) (hj : j.toInt = i) (hi : vs[i]? = some v) (hg : g.method = m) (hs : g.stack = .int j :: .ref a :: rest) (hg' : { g with pc := g.pc + 1, stack := v :: rest } = g')
    (k : own_Ends p e below s Q kc ks (T.setTop g')) : own_Ends p e below s Q kc ks (T.setTop g) := by
  subst hg'
  obtain ⟨cl, A, hv, hl⟩ := A
  exact own_up (fun t => X.iaload hx (by rw [eT]; exact A.1) (State.isArrayOf_alike hZ.alike A.2.1) A.2.2 (own_in (ty := .int) hv hj (List.getElem?_eq_some_iff.mp hi).1) (own_at hv hj hi) hg hs hd t) k
theorem own_ldj (X : Stand p l e R s m args below meth c T locs cells slots) (hx : p.tables.exec = Jvm.exec) (hZ : Z.Warmed39 s.vm) (eT : T.heap = h) {a : Addr} {vs : List Value} (A : own_Al Z h a .long vs) {j : Int32} {v : Value} (i : Nat) {g g' : JFrame} {rest : List Value} (hd : decode c.code g.pc = .ok (.laload, 1)) (hj : j.toInt = i) (hi : vs[i]? = some v) (hg : g.method = m) (hs : g.stack = .int j :: .ref a :: rest) (hg' : { g with pc := g.pc + 1, stack := v :: rest } = g')
    (k : own_Ends p e below s Q kc ks (T.setTop g')) : own_Ends p e below s Q kc ks (T.setTop g) := by
  subst hg'
  obtain ⟨cl, A, hv, hl⟩ := A
  exact own_up (fun t => X.laload hx (by rw [eT]; exact A.1) (State.isArrayOf_alike hZ.alike A.2.1) A.2.2 (own_in (ty := .long) hv hj (List.getElem?_eq_some_iff.mp hi).1) (own_at hv hj hi) hg hs hd t) k
theorem own_ldb (X : Stand p l e R s m args below meth c T locs cells slots) (hx : p.tables.exec = Jvm.exec) (hZ : Z.Warmed39 s.vm) (eT : T.heap = h) {a : Addr} {vs : List Value} (A : own_Al Z h a .byte vs) {j : Int32} {v : Value} (i : Nat) {g g' : JFrame} {rest : List Value} (hd : decode c.code g.pc = .ok (.baload, 1)) (hj : j.toInt = i) (hi : vs[i]? = some v) (hg : g.method = m) (hs : g.stack = .int j :: .ref a :: rest) (hg' : { g with pc := g.pc + 1, stack := v :: rest } = g')
    (k : own_Ends p e below s Q kc ks (T.setTop g')) : own_Ends p e below s Q kc ks (T.setTop g) := by
  subst hg'
  obtain ⟨cl, A, hv, hl⟩ := A
  exact own_up (fun t => X.baloadBytes hx (by rw [eT]; exact A.1) (State.isArrayOf_alike hZ.alike A.2.1) A.2.2 (own_in (ty := .byte) hv hj (List.getElem?_eq_some_iff.mp hi).1) (own_at hv hj hi) hg hs hd t) k
theorem own_len (X : Stand p l e R s m args below meth c T locs cells slots) (hx : p.tables.exec = Jvm.exec) (hZ : Z.Warmed39 s.vm) (eT : T.heap = h) {a : Addr} {ty : FieldType} {vs : List Value} (A : own_Al Z h a ty vs) {g g' : JFrame} {rest : List Value} (z : Int32) (hd : decode c.code g.pc = .ok (.arraylength, 1)) (hz : z.toInt = vs.length) (hg : g.method = m) (hs : g.stack = .ref a :: rest) (hg' : { g with pc := g.pc + 1, stack := .int z :: rest } = g')
    (k : own_Ends p e below s Q kc ks (T.setTop g')) : own_Ends p e below s Q kc ks (T.setTop g) := by
  subst hg'
  obtain ⟨cl, A, hv, hl⟩ := A
  have q : cl.slots.size.toInt32 = z := by
    apply Int32.toInt_inj.mp
    have h2 : cl.slots.size = vs.length := by rw [← hv]; simp
    rw [hz, h2, len_toInt hl]
  exact own_up (fun t => X.arraylength hx (by rw [eT]; exact A.1) (State.isArrayOf_alike hZ.alike A.2.1) hg hs hd t) (by rw [q]; exact k)
end Own
def own_cs (v b y m : Int32) : Int32 := if v.toInt ≠ 0 ∨ b.toInt < m.toInt ∨ b.toInt < y.toInt then 1 else 0
theorem own_cs_1 {v b y m : Int32} (h : v.toInt ≠ 0 ∨ b.toInt < m.toInt ∨ b.toInt < y.toInt) : (1 : Int32) = own_cs v b y m := (if_pos h).symm
theorem own_cs_0 {v b y m : Int32} (h : ¬ (v.toInt ≠ 0 ∨ b.toInt < m.toInt ∨ b.toInt < y.toInt)) : (0 : Int32) = own_cs v b y m := (if_neg h).symm
theorem own_mm {x v : Int32} (h : v = (x &&& (2147483647 : Int32))) : 0 ≤ v.toInt := by
  have h1 : (x &&& (2147483647 : Int32)).toInt = x.toInt % 2147483648 := c_mask x (2147483647 : Int32) 31 (by decide) (by decide)
  rw [h]; omega
theorem own_ch (x : Int32) : ¬ ((255 : Int32) < (x &&& (255 : Int32)).toUInt32.toUInt16.toUInt32.toInt32) := by
  rw [i2c_mask]
  have h1 : (x &&& (255 : Int32)).toInt = x.toInt % 256 := c_mask x (255 : Int32) 8 (by decide) (by decide)
  have z : (255 : Int32).toInt = 255 := rfl
  rw [Int32.lt_iff_toInt_lt]; omega
theorem own_pd0 : parseMethodDescriptor "(C)Z" = some ⟨[.char], some .boolean⟩ := by decide +kernel
theorem own_pd1 : parseMethodDescriptor "(C)[B" = some ⟨[.char], some (.array .byte)⟩ := by decide +kernel
theorem own_pd2 : parseMethodDescriptor "([BB)V" = some ⟨[(.array .byte), .byte], none⟩ := by decide +kernel
theorem own_pd3 : parseMethodDescriptor "()V" = some ⟨[], none⟩ := by decide +kernel
theorem own_pd4 : parseMethodDescriptor "(II)I" = some ⟨[.int, .int], some .int⟩ := by decide +kernel
theorem own_pd5 : parseMethodDescriptor "(C)Ljava/lang/String;" = some ⟨[.char], some (.object "java/lang/String")⟩ := by decide +kernel
theorem own_pd6 : parseMethodDescriptor "(Ljava/lang/String;I)V" = some ⟨[(.object "java/lang/String"), .int], none⟩ := by decide +kernel
theorem own_pd7 : parseMethodDescriptor "(ZII)Z" = some ⟨[.boolean, .int, .int], some .boolean⟩ := by decide +kernel
theorem d1_0 : decode jdk_43_method_3_code 0 = .ok (.iload_n 0, 1) := by decide +kernel
theorem d1_1 : decode jdk_43_method_3_code 1 = .ok (.sipush 255, 3) := by decide +kernel
theorem d1_4 : decode jdk_43_method_3_code 4 = .ok (.if_icmp .gt 7, 3) := by decide +kernel
theorem d1_7 : decode jdk_43_method_3_code 7 = .ok (.iconst 1, 1) := by decide +kernel
theorem d1_8 : decode jdk_43_method_3_code 8 = .ok (.goto 4, 3) := by decide +kernel
theorem d1_12 : decode jdk_43_method_3_code 12 = .ok (.ireturn, 1) := by decide +kernel
def own_R1 : Room := { frames := 0, cells := 0, slots := 0, locals := 0 }
theorem own_ef1 (p0 : Int32) (m : MethodId) : entryFrame m #[(.int p0)] 1 = mkF m 0 #[.val (.int p0)] [] := by first | (simp [entryFrame, mkF, argsToLocals, Value.category]; done) | rfl
def own_Q1 (Z : State) (p0 : Int32)  (h0 : Heap) (n0 : Nat) (v : Option Value) (h : Heap) (L : List Loc) : Prop := v = some (.int (1 : Int32)) ∧ Fr n0 L ∧ h = h0
set_option maxRecDepth 65536 in
set_option maxHeartbeats 40000000 in
theorem rm1 (l : Launch) (Z : State) (a0 : Array Value) (hw : ∀ d ∈ tables_1, d.before a0 Z = true) (ws : List Jvm.Cond) (p0 : Int32)  (h0 : Heap) (n0 : Nat) (Z0 : n0 ≤ h0.size) (hp : ¬ ((255 : Int32) < p0)) :
    MetFree l (⟨"java/lang/StringLatin1", "canEncode", "(C)Z"⟩ : MethodName) (head1 (Jvm.Cond.code (⟨"java/lang/StringLatin1", "canEncode", "(C)Z"⟩ : MethodName) jdk_43_method_3_code 1 (some .boolean) :: ws) own_R1) (fun a U => a = #[(.int p0)] ∧ Z.Warmed39 U.vm ∧ U.heap = h0) (fun _ _ _ _ _ => True) (fun _ U o U' => ∃ v L, o = .returned v ∧ own_Q1 Z p0 h0 n0 v U'.heap L ∧ FrameEnd U o U' L own_R1.cells own_R1.slots) := by
  refine own_met (Q := own_Q1 Z p0 h0 n0) (plainFor_of_name (by first | (simp [plainName, overriddenIn]; done) | decide +kernel)) (own_ef1 p0) ?_
  intro p e s m below meth c T0 hx hby hml hown hnm hret hlk hZ e0 X0
  have N0 := Fr.nil n0
  refine own_up (S' := T0.setTop (mkF m 1 #[.val (.int p0)] [(.int p0)])) (fun t kk => XS.iloadN X0.here hx rfl (hb hby d1_0) rfl kk) ?_
  refine own_up (S' := T0.setTop (mkF m 4 #[.val (.int p0)] [(.int (255 : Int32)), (.int p0)])) (fun t kk => XT.sipushV X0.here hx rfl (255 : Int32) (hb hby d1_1) rfl kk) ?_
  have hc4_1 : ¬ ((255 : Int32) < p0) := hp
  have ihc4_1 : p0.toInt ≤ 255 := own_inl hc4_1
  refine own_up (S' := T0.setTop (mkF m 7 #[.val (.int p0)] [])) (fun t kk => XS.icmpNo X0.here hx rfl (hb hby d1_4) rfl (XT.ii_gt_f hc4_1) kk) ?_
  refine own_up (S' := T0.setTop (mkF m 8 #[.val (.int p0)] [(.int (1 : Int32))])) (fun t kk => XT.iconstV X0.here hx rfl (1 : Int32) (hb hby d1_7) rfl kk) ?_
  refine own_up (S' := T0.setTop (mkF m 12 #[.val (.int p0)] [(.int (1 : Int32))])) (fun t kk => XS.goto X0.here hx rfl (pc0 := 8) (pc' := 12) rfl (hb hby d1_8) (by decide) (by decide) kk) ?_
  refine own_retN X0 hx hlk (t := .boolean) hret (by simp) (z' := (1 : Int32)) rfl (hb hby d1_12) (by decide) (by decide) ?_
  show own_Q1 Z p0 h0 n0 _ T0.heap _
  rw [e0]
  exact ⟨rfl, N0, rfl⟩
theorem d2_0 : decode jdk_43_method_46_code 0 = .ok (.iconst 1, 1) := by decide +kernel
theorem d2_1 : decode jdk_43_method_46_code 1 = .ok (.newarray .byte, 2) := by decide +kernel
theorem d2_3 : decode jdk_43_method_46_code 3 = .ok (.dup, 1) := by decide +kernel
theorem d2_4 : decode jdk_43_method_46_code 4 = .ok (.iconst 0, 1) := by decide +kernel
theorem d2_5 : decode jdk_43_method_46_code 5 = .ok (.iload_n 0, 1) := by decide +kernel
theorem d2_6 : decode jdk_43_method_46_code 6 = .ok (.i2b, 1) := by decide +kernel
theorem d2_7 : decode jdk_43_method_46_code 7 = .ok (.bastore, 1) := by decide +kernel
theorem d2_8 : decode jdk_43_method_46_code 8 = .ok (.areturn, 1) := by decide +kernel
def own_R2 : Room := { frames := 0, cells := 1, slots := 1, locals := 0 }
theorem own_ef2 (p0 : Int32) (m : MethodId) : entryFrame m #[(.int p0)] 1 = mkF m 0 #[.val (.int p0)] [] := by first | (simp [entryFrame, mkF, argsToLocals, Value.category]; done) | rfl
def own_Q2 (Z : State) (p0 : Int32)  (h0 : Heap) (n0 : Nat) (v : Option Value) (h : Heap) (L : List Loc) : Prop := ∃ r : Addr, v = some (.ref r) ∧ (True) ∧ Fr n0 L ∧ Keep h0 h []
set_option maxRecDepth 65536 in
set_option maxHeartbeats 40000000 in
theorem rm2 (l : Launch) (Z : State) (a0 : Array Value) (hw : ∀ d ∈ tables_1, d.before a0 Z = true) (ws : List Jvm.Cond) (p0 : Int32)  (h0 : Heap) (n0 : Nat) (Z0 : n0 ≤ h0.size)  :
    MetFree l (⟨"java/lang/StringLatin1", "toBytes", "(C)[B"⟩ : MethodName) (head1 (Jvm.Cond.code (⟨"java/lang/StringLatin1", "toBytes", "(C)[B"⟩ : MethodName) jdk_43_method_46_code 1 (some (.array .byte)) :: ws) own_R2) (fun a U => a = #[(.int p0)] ∧ Z.Warmed39 U.vm ∧ U.heap = h0) (fun _ _ _ _ _ => True) (fun _ U o U' => ∃ v L, o = .returned v ∧ own_Q2 Z p0 h0 n0 v U'.heap L ∧ FrameEnd U o U' L own_R2.cells own_R2.slots) := by
  refine own_met (Q := own_Q2 Z p0 h0 n0) (plainFor_of_name (by first | (simp [plainName, overriddenIn]; done) | decide +kernel)) (own_ef2 p0) ?_
  intro p e s m below meth c T0 hx hby hml hown hnm hret hlk hZ e0 X0
  have N0 := Fr.nil n0
  refine own_up (S' := T0.setTop (mkF m 1 #[.val (.int p0)] [(.int (1 : Int32))])) (fun t kk => XT.iconstV X0.here hx rfl (1 : Int32) (hb hby d2_0) rfl kk) ?_
  refine own_newa X0 hx hZ (ty := .byte) rfl (hw _ (List.mem_of_getElem? (i := 15) rfl)) e0 1 (hb hby d2_1) (rfl) 1 (by decide) (by decide) (by decide) (by decide) rfl rfl ?_
  intro T1 h1 ad1 hb1 X1 e1 E1 A1
  have g_ad1 : n0 ≤ ad1 := Nat.le_trans Z0 (Nat.le_of_eq hb1.symm)
  have sz_ad1 : h0.size ≤ ad1 := Nat.le_trans (Keep.refl h0 []).1 (Nat.le_of_eq hb1.symm)
  have Zn2 := Nat.le_trans Z0 E1.1
  have Kp4 := (Keep.refl h0 []).ext E1
  have Al1 : own_Al Z h1 ad1 .byte [(.int (0 : Int32))] := A1
  show own_Ends p e below s (own_Q2 Z p0 h0 n0) own_R2.cells own_R2.slots (T1.setTop (mkF m 3 #[.val (.int p0)] [(.ref ad1)]))
  refine own_up (S' := T1.setTop (mkF m 4 #[.val (.int p0)] [(.ref ad1), (.ref ad1)])) (fun t kk => XS.dup X1.here hx rfl (hb hby d2_3) rfl rfl kk) ?_
  refine own_up (S' := T1.setTop (mkF m 5 #[.val (.int p0)] [(.int (0 : Int32)), (.ref ad1), (.ref ad1)])) (fun t kk => XT.iconstV X1.here hx rfl (0 : Int32) (hb hby d2_4) rfl kk) ?_
  refine own_up (S' := T1.setTop (mkF m 6 #[.val (.int p0)] [(.int p0), (.int (0 : Int32)), (.ref ad1), (.ref ad1)])) (fun t kk => XS.iloadN X1.here hx rfl (hb hby d2_5) rfl kk) ?_
  refine own_up (S' := T1.setTop (mkF m 7 #[.val (.int p0)] [(.int p0.toInt8.toInt32), (.int (0 : Int32)), (.ref ad1), (.ref ad1)])) (fun t kk => XT.i2b X1.here hx rfl (hb hby d2_6) rfl kk) ?_
  refine own_stb X1 hx hZ e1 Al1 0 (hb hby d2_7) (rfl) (Nat.le_of_ble_eq_true rfl) rfl rfl (g' := (mkF m 8 #[.val (.int p0)] [(.ref ad1)])) rfl ?_
  intro T5 h5 X5 e5 W5 B5
  have Zn6 := Nat.le_trans Zn2 (Nat.le_of_eq W5.size.symm)
  have Kp8 := Kp4.wr W5 (Or.inr sz_ad1)
  have N5 := Fr.snoc X5 N0 g_ad1
  have Al5 : own_Al Z h5 ad1 .byte [(.int (nar .byte p0.toInt8.toInt32))] := B5
  refine own_retA X5 hx hlk hret rfl rfl (hb hby d2_8) (by decide) (by decide) ?_
  show own_Q2 Z p0 h0 n0 _ T5.heap _
  rw [e5]
  exact ⟨ad1, rfl, trivial, N5, Kp8⟩
theorem d3_0 : decode jdk_42_method_151_code 0 = .ok (.aload_n 0, 1) := by decide +kernel
theorem d3_1 : decode jdk_42_method_151_code 1 = .ok (.invokespecial 1, 3) := by decide +kernel
theorem d3_4 : decode jdk_42_method_151_code 4 = .ok (.aload_n 0, 1) := by decide +kernel
theorem d3_5 : decode jdk_42_method_151_code 5 = .ok (.aload_n 1, 1) := by decide +kernel
theorem d3_6 : decode jdk_42_method_151_code 6 = .ok (.putfield 9, 3) := by decide +kernel
theorem d3_9 : decode jdk_42_method_151_code 9 = .ok (.aload_n 0, 1) := by decide +kernel
theorem d3_10 : decode jdk_42_method_151_code 10 = .ok (.iload_n 2, 1) := by decide +kernel
theorem d3_11 : decode jdk_42_method_151_code 11 = .ok (.putfield 15, 3) := by decide +kernel
theorem d3_14 : decode jdk_42_method_151_code 14 = .ok (.return_, 1) := by decide +kernel
def own_R3 : Room := { frames := 1, cells := 0, slots := 0, locals := 12 }
theorem own_ef3 (oo : Addr) (p1 : Addr) (p2 : Int32) (m : MethodId) : entryFrame m #[(.ref oo), (.ref p1), (.int p2)] 3 = mkF m 0 #[.val (.ref oo), .val (.ref p1), .val (.int p2)] [] := by first | (simp [entryFrame, mkF, argsToLocals, Value.category]; done) | rfl
def own_Q3 (Z : State) (oo : Addr) (p1 : Addr) (p2 : Int32)  (h0 : Heap) (n0 : Nat) (v : Option Value) (h : Heap) (L : List Loc) : Prop := v = none ∧ Fr n0 L ∧ Keep h0 h [oo]
set_option maxRecDepth 65536 in
set_option maxHeartbeats 40000000 in
theorem rm3 (l : Launch) (Z : State) (a0 : Array Value) (hw : ∀ d ∈ tables_1, d.before a0 Z = true) (ws : List Jvm.Cond) (oo : Addr) (p1 : Addr) (p2 : Int32)  (h0 : Heap) (n0 : Nat) (Z0 : n0 ≤ h0.size) (Fv : Fld Z h0 oo "java/lang/String" "value" "[B" .null) (Fc : Fld Z h0 oo "java/lang/String" "coder" "B" (.int (0 : Int32))) (Et : Exa Z h0 oo "java/lang/String") (gt : n0 ≤ oo) :
    MetFree l (⟨"java/lang/String", "<init>", "([BB)V"⟩ : MethodName) (head1 (Jvm.Cond.code (⟨"java/lang/String", "<init>", "([BB)V"⟩ : MethodName) jdk_42_method_151_code 3 none :: ws) own_R3) (fun a U => a = #[(.ref oo), (.ref p1), (.int p2)] ∧ Z.Warmed39 U.vm ∧ U.heap = h0) (fun _ _ _ _ _ => True) (fun _ U o U' => ∃ v L, o = .returned v ∧ own_Q3 Z oo p1 p2 h0 n0 v U'.heap L ∧ FrameEnd U o U' L own_R3.cells own_R3.slots) := by
  refine own_met (Q := own_Q3 Z oo p1 p2 h0 n0) (plainFor_of_name (by first | (simp [plainName, overriddenIn]; done) | decide +kernel)) (own_ef3 oo p1 p2) ?_
  intro p e s m below meth c T0 hx hby hml hown hnm hret hlk hZ e0 X0
  have N0 := Fr.nil n0
  refine own_up (S' := T0.setTop (mkF m 1 #[.val (.ref oo), .val (.ref p1), .val (.int p2)] [(.ref oo)])) (fun t kk => XS.aloadN X0.here hx rfl (hb hby d3_0) rfl rfl kk) ?_
  refine own_init X0 hx hZ hown (hw _ (List.mem_of_getElem? (i := 20) rfl)) (hw _ (List.mem_of_getElem? (i := 21) rfl)) (hw _ (List.mem_of_getElem? (i := 22) rfl)) e0 0 (g' := (mkF m 4 #[.val (.ref oo), .val (.ref p1), .val (.int p2)] [])) (hb hby d3_1) (by decide) (by decide) rfl (by rw [hml]; rfl) rfl (by show 2 * 0 + _ ≤ _; exact Nat.le_of_eq rfl) rfl ?_
  intro T1 X1 e1
  refine own_up (S' := T1.setTop (mkF m 5 #[.val (.ref oo), .val (.ref p1), .val (.int p2)] [(.ref oo)])) (fun t kk => XS.aloadN X1.here hx rfl (hb hby d3_4) rfl rfl kk) ?_
  refine own_up (S' := T1.setTop (mkF m 6 #[.val (.ref oo), .val (.ref p1), .val (.int p2)] [(.ref p1), (.ref oo)])) (fun t kk => XS.aloadN X1.here hx rfl (hb hby d3_5) rfl rfl kk) ?_
  refine own_put X1 hx hZ (.array .byte) hown (hw _ (List.mem_of_getElem? (i := 23) rfl)) Via.refl e1 Fv Et (Or.inr ⟨(hw _ (List.mem_of_getElem? (i := 24) rfl)), rfl, hnm⟩) (hw _ (List.mem_of_getElem? (i := 11) rfl)) (by decide) (v' := (.ref p1)) (rfl) (rfl) (g' := (mkF m 9 #[.val (.ref oo), .val (.ref p1), .val (.int p2)] [])) (hb hby d3_6) rfl rfl rfl ?_
  intro T2 h2 X2 e2 W2
  have Zn3 := Nat.le_trans Z0 (Nat.le_of_eq W2.size.symm)
  have Fc_4 := Fc.other W2 (Or.inr (slot_ne (Or.inr (hw _ (List.mem_of_getElem? (i := 26) rfl))) (Or.inr (hw _ (List.mem_of_getElem? (i := 24) rfl))) (by decide) (t := .byte) (t' := (.array .byte)) (by decide) (by decide)))
  have Et_4 := Et.wr W2
  have Kp5 := (Keep.refl h0 [oo]).wr W2 (Or.inl (List.mem_of_getElem? (i := 0) rfl))
  have N2 := Fr.snoc X2 N0 gt
  have Fvalue_2 := Fv.same W2
  refine own_up (S' := T2.setTop (mkF m 10 #[.val (.ref oo), .val (.ref p1), .val (.int p2)] [(.ref oo)])) (fun t kk => XS.aloadN X2.here hx rfl (hb hby d3_9) rfl rfl kk) ?_
  refine own_up (S' := T2.setTop (mkF m 11 #[.val (.ref oo), .val (.ref p1), .val (.int p2)] [(.int p2), (.ref oo)])) (fun t kk => XS.iloadN X2.here hx rfl (hb hby d3_10) rfl kk) ?_
  refine own_put X2 hx hZ .byte hown (hw _ (List.mem_of_getElem? (i := 25) rfl)) Via.refl e2 Fc_4 Et_4 (Or.inr ⟨(hw _ (List.mem_of_getElem? (i := 26) rfl)), rfl, hnm⟩) (hw _ (List.mem_of_getElem? (i := 11) rfl)) (by decide) (v' := (.int (nar .byte p2))) (rfl) (fits_nar_byte p2) (g' := (mkF m 14 #[.val (.ref oo), .val (.ref p1), .val (.int p2)] [])) (hb hby d3_11) rfl rfl rfl ?_
  intro T6 h6 X6 e6 W6
  have Zn7 := Nat.le_trans Zn3 (Nat.le_of_eq W6.size.symm)
  have Fvalue_8 := Fvalue_2.other W6 (Or.inr (slot_ne (Or.inr (hw _ (List.mem_of_getElem? (i := 24) rfl))) (Or.inr (hw _ (List.mem_of_getElem? (i := 26) rfl))) (by decide) (t := (.array .byte)) (t' := .byte) (by decide) (by decide)))
  have Et_8 := Et_4.wr W6
  have Kp9 := Kp5.wr W6 (Or.inl (List.mem_of_getElem? (i := 0) rfl))
  have N6 := Fr.snoc X6 N2 gt
  have Fcoder_6 := Fc_4.same W6
  refine own_retV X6 hx hlk hret (hb hby d3_14) (by decide) (by decide) ?_
  show own_Q3 Z oo p1 p2 h0 n0 _ T6.heap _
  rw [e6]
  exact ⟨rfl, N6, Kp9⟩
theorem d4_0 : decode jdk_42_method_139_code 0 = .ok (.getstatic 38, 3) := by decide +kernel
theorem d4_3 : decode jdk_42_method_139_code 3 = .ok (.ifCond .eq 23, 3) := by decide +kernel
theorem d4_6 : decode jdk_42_method_139_code 6 = .ok (.iload_n 0, 1) := by decide +kernel
theorem d4_7 : decode jdk_42_method_139_code 7 = .ok (.invokestatic 1015, 3) := by decide +kernel
theorem d4_10 : decode jdk_42_method_139_code 10 = .ok (.ifCond .eq 16, 3) := by decide +kernel
theorem d4_13 : decode jdk_42_method_139_code 13 = .ok (.new 10, 3) := by decide +kernel
theorem d4_16 : decode jdk_42_method_139_code 16 = .ok (.dup, 1) := by decide +kernel
theorem d4_17 : decode jdk_42_method_139_code 17 = .ok (.iload_n 0, 1) := by decide +kernel
theorem d4_18 : decode jdk_42_method_139_code 18 = .ok (.invokestatic 1018, 3) := by decide +kernel
theorem d4_21 : decode jdk_42_method_139_code 21 = .ok (.iconst 0, 1) := by decide +kernel
theorem d4_22 : decode jdk_42_method_139_code 22 = .ok (.invokespecial 209, 3) := by decide +kernel
theorem d4_25 : decode jdk_42_method_139_code 25 = .ok (.areturn, 1) := by decide +kernel
def own_R4 : Room := { frames := 2, cells := 2, slots := 5, locals := 27 }
theorem own_ef4 (p0 : Int32) (m : MethodId) : entryFrame m #[(.int p0)] 1 = mkF m 0 #[.val (.int p0)] [] := by first | (simp [entryFrame, mkF, argsToLocals, Value.category]; done) | rfl
def own_Q4 (Z : State) (p0 : Int32) (w9 : Int32) (h0 : Heap) (n0 : Nat) (v : Option Value) (h : Heap) (L : List Loc) : Prop := ∃ r : Addr, v = some (.ref r) ∧ (True) ∧ Fr n0 L ∧ Keep h0 h []
set_option maxRecDepth 65536 in
set_option maxHeartbeats 40000000 in
theorem rm4 (l : Launch) (Z : State) (a0 : Array Value) (hw : ∀ d ∈ tables_1, d.before a0 Z = true) (ws : List Jvm.Cond) (p0 : Int32) (w9 : Int32) (h0 : Heap) (n0 : Nat) (Z0 : n0 ≤ h0.size) (Sc : Sta Z h0 "java/lang/String" "COMPACT_STRINGS" "Z" (.int w9)) (hw9 : ¬ (w9 = 0)) (hp : ¬ ((255 : Int32) < p0)) :
    MetFree l (⟨"java/lang/String", "valueOf", "(C)Ljava/lang/String;"⟩ : MethodName) (head1 (Jvm.Cond.code (⟨"java/lang/String", "valueOf", "(C)Ljava/lang/String;"⟩ : MethodName) jdk_42_method_139_code 1 (some (.object "java/lang/String")) :: ws) own_R4) (fun a U => a = #[(.int p0)] ∧ Z.Warmed39 U.vm ∧ U.heap = h0) (fun _ _ _ _ _ => True) (fun _ U o U' => ∃ v L, o = .returned v ∧ own_Q4 Z p0 w9 h0 n0 v U'.heap L ∧ FrameEnd U o U' L own_R4.cells own_R4.slots) := by
  refine own_met (Q := own_Q4 Z p0 w9 h0 n0) (plainFor_of_name (by first | (simp [plainName, overriddenIn]; done) | decide +kernel)) (own_ef4 p0) ?_
  intro p e s m below meth c T0 hx hby hml hown hnm hret hlk hZ e0 X0
  have N0 := Fr.nil n0
  refine own_gets X0 hx hZ hown (hw _ (List.mem_of_getElem? (i := 5) rfl)) Via.refl e0 Sc (g' := (mkF m 3 #[.val (.int p0)] [(.int w9)])) (hb hby d4_0) rfl rfl ?_
  intro T1 X1 e1
  have hc3_2 : ¬ (w9 = 0) := hw9
  have ihc3_2 : w9.toInt ≠ 0 := own_ine hc3_2
  refine own_up (S' := T1.setTop (mkF m 6 #[.val (.int p0)] [])) (fun t kk => XS.ifNo X1.here hx rfl (hb hby d4_3) rfl (XT.i0_eq_f hc3_2) kk) ?_
  refine own_up (S' := T1.setTop (mkF m 7 #[.val (.int p0)] [(.int p0)])) (fun t kk => XS.iloadN X1.here hx rfl (hb hby d4_6) rfl kk) ?_
  refine own_callS X1 hx hZ hown (hw _ (List.mem_of_getElem? (i := 6) rfl)) (hw _ (List.mem_of_getElem? (i := 7) rfl)) (hw _ (List.mem_of_getElem? (i := 8) rfl)) (hw _ (List.mem_of_getElem? (i := 9) rfl)) (by decide) e1 (rm1 l Z a0 hw [] p0 h0 n0 Z0 (hp)) 0 [(.int p0)] [] (hb hby d4_7) (lenOf own_pd0 rfl) (by decide) (by decide) (by decide) (by decide) rfl (by rw [hml]; rfl) rfl (by show 2 * 0 + _ ≤ _; exact Nat.le_of_eq rfl) rfl ?_
  intro T3 L3 r3 X3 q3
  obtain ⟨rfl, M3, e3⟩ := q3
  have N3 := Fr.app N0 M3
  show own_Ends p e below s (own_Q4 Z p0 w9 h0 n0) own_R4.cells own_R4.slots (T3.setTop (mkF m 10 #[.val (.int p0)] [(.int (1 : Int32))]))
  have hc10_4 : ¬ ((1 : Int32) = 0) := by decide
  refine own_up (S' := T3.setTop (mkF m 13 #[.val (.int p0)] [])) (fun t kk => XS.ifNo X3.here hx rfl (hb hby d4_10) rfl (XT.i0_eq_f hc10_4) kk) ?_
  refine own_new X3 hx hZ hown (hw _ (List.mem_of_getElem? (i := 10) rfl)) (hw _ (List.mem_of_getElem? (i := 11) rfl)) (hw _ (List.mem_of_getElem? (i := 3) rfl)) e3 rfl (hb hby d4_13) (by decide) (by decide) ?_
  intro T5 h5 ad5 hb5 X5 e5 E5 A5 D5
  have g_ad5 : n0 ≤ ad5 := Nat.le_trans Z0 (Nat.le_of_eq hb5.symm)
  have sz_ad5 : h0.size ≤ ad5 := Nat.le_trans (Keep.refl h0 []).1 (Nat.le_of_eq hb5.symm)
  have Zn6 := Nat.le_trans Z0 E5.1
  have Sc_7 := Sc.ext E5
  have Kp8 := (Keep.refl h0 []).ext E5
  have Fvalue_ad5 : Fld Z h5 ad5 "java/lang/String" "value" "[B" .null := D5 (Or.inr (hw _ (List.mem_of_getElem? (i := 24) rfl))) (ty := (.array .byte)) (by decide)
  have Fcoder_ad5 : Fld Z h5 ad5 "java/lang/String" "coder" "B" (.int (0 : Int32)) := D5 (Or.inr (hw _ (List.mem_of_getElem? (i := 26) rfl))) (ty := .byte) (by decide)
  show own_Ends p e below s (own_Q4 Z p0 w9 h0 n0) own_R4.cells own_R4.slots (T5.setTop (mkF m 16 #[.val (.int p0)] [(.ref ad5)]))
  refine own_up (S' := T5.setTop (mkF m 17 #[.val (.int p0)] [(.ref ad5), (.ref ad5)])) (fun t kk => XS.dup X5.here hx rfl (hb hby d4_16) rfl rfl kk) ?_
  refine own_up (S' := T5.setTop (mkF m 18 #[.val (.int p0)] [(.int p0), (.ref ad5), (.ref ad5)])) (fun t kk => XS.iloadN X5.here hx rfl (hb hby d4_17) rfl kk) ?_
  refine own_callS X5 hx hZ hown (hw _ (List.mem_of_getElem? (i := 12) rfl)) (hw _ (List.mem_of_getElem? (i := 13) rfl)) (hw _ (List.mem_of_getElem? (i := 8) rfl)) (hw _ (List.mem_of_getElem? (i := 14) rfl)) (by decide) e5 (rm2 l Z a0 hw [] p0 h5 n0 Zn6 ) 2 [(.int p0)] [(.ref ad5), (.ref ad5)] (hb hby d4_18) (lenOf own_pd1 rfl) (by decide) (by decide) (by decide) (by decide) rfl (by rw [hml]; rfl) rfl (by show 2 * 0 + _ ≤ _; exact Nat.le_of_eq rfl) rfl ?_
  intro T9 L9 r9 X9 q9
  obtain ⟨r_9, rfl, hr_9, M9, K9⟩ := q9
  have N9 := Fr.app N3 M9
  have Zn10 := Nat.le_trans Zn6 K9.1
  have Kp11 := Kp8.trans K9 all0
  have A5_12 := A5.keep K9
  have Fvalue_ad5_12 := Fvalue_ad5.keep K9 nin0
  have Fcoder_ad5_12 := Fcoder_ad5.keep K9 nin0
  show own_Ends p e below s (own_Q4 Z p0 w9 h0 n0) own_R4.cells own_R4.slots (T9.setTop (mkF m 21 #[.val (.int p0)] [(.ref r_9), (.ref ad5), (.ref ad5)]))
  refine own_up (S' := T9.setTop (mkF m 22 #[.val (.int p0)] [(.int (0 : Int32)), (.ref r_9), (.ref ad5), (.ref ad5)])) (fun t kk => XT.iconstV X9.here hx rfl (0 : Int32) (hb hby d4_21) rfl kk) ?_
  refine own_callI X9 hx hZ rfl hown (hw _ (List.mem_of_getElem? (i := 16) rfl)) (hw _ (List.mem_of_getElem? (i := 17) rfl)) (hw _ (List.mem_of_getElem? (i := 3) rfl)) (hw _ (List.mem_of_getElem? (i := 19) rfl)) (by decide) rfl (rm3 l Z a0 hw [] ad5 r_9 (0 : Int32) T9.heap n0 Zn10 Fvalue_ad5_12 Fcoder_ad5_12 A5_12 g_ad5) 1 ad5 [(.ref r_9), (.int (0 : Int32))] [(.ref ad5)] (hb hby d4_22) (lenOf own_pd2 rfl) (by decide) (by decide) (by decide) (by decide) rfl (by rw [hml]; rfl) rfl (by show 2 * 0 + _ ≤ _; exact Nat.le_of_eq rfl) rfl ?_
  intro T13 L13 r13 X13 q13
  obtain ⟨rfl, M13, K13⟩ := q13
  have N13 := Fr.app N9 M13
  have Zn14 := Nat.le_trans Zn10 K13.1
  have Kp15 := Kp11.trans K13 (allS (Or.inr sz_ad5) all0)
  have A5_16 := A5_12.keep K13
  show own_Ends p e below s (own_Q4 Z p0 w9 h0 n0) own_R4.cells own_R4.slots (T13.setTop (mkF m 25 #[.val (.int p0)] [(.ref ad5)]))
  refine own_retA X13 hx hlk hret rfl rfl (hb hby d4_25) (by decide) (by decide) ?_
  show own_Q4 Z p0 w9 h0 n0 _ T13.heap _
  exact ⟨ad5, rfl, trivial, N13, Kp15⟩
theorem d5_0 : decode jdk_29_method_65_code 0 = .ok (.iload_n 0, 1) := by decide +kernel
theorem d5_1 : decode jdk_29_method_65_code 1 = .ok (.iload_n 1, 1) := by decide +kernel
theorem d5_2 : decode jdk_29_method_65_code 2 = .ok (.if_icmp .lt 7, 3) := by decide +kernel
theorem d5_5 : decode jdk_29_method_65_code 5 = .ok (.iload_n 0, 1) := by decide +kernel
theorem d5_6 : decode jdk_29_method_65_code 6 = .ok (.goto 4, 3) := by decide +kernel
theorem d5_9 : decode jdk_29_method_65_code 9 = .ok (.iload_n 1, 1) := by decide +kernel
theorem d5_10 : decode jdk_29_method_65_code 10 = .ok (.ireturn, 1) := by decide +kernel
def own_R5 : Room := { frames := 0, cells := 0, slots := 0, locals := 0 }
theorem own_ef5 (p0 : Int32) (p1 : Int32) (m : MethodId) : entryFrame m #[(.int p0), (.int p1)] 2 = mkF m 0 #[.val (.int p0), .val (.int p1)] [] := by first | (simp [entryFrame, mkF, argsToLocals, Value.category]; done) | rfl
def own_Q5 (Z : State) (p0 : Int32) (p1 : Int32)  (h0 : Heap) (n0 : Nat) (v : Option Value) (h : Heap) (L : List Loc) : Prop := ∃ r : Int32, v = some (.int r) ∧ (r.toInt = max p0.toInt p1.toInt) ∧ Fr n0 L ∧ h = h0
set_option maxRecDepth 65536 in
set_option maxHeartbeats 40000000 in
theorem rm5 (l : Launch) (Z : State) (a0 : Array Value) (hw : ∀ d ∈ tables_1, d.before a0 Z = true) (ws : List Jvm.Cond) (p0 : Int32) (p1 : Int32)  (h0 : Heap) (n0 : Nat) (Z0 : n0 ≤ h0.size)  :
    MetFree l (⟨"java/lang/Math", "max", "(II)I"⟩ : MethodName) (head1 (Jvm.Cond.code (⟨"java/lang/Math", "max", "(II)I"⟩ : MethodName) jdk_29_method_65_code 2 (some .int) :: ws) own_R5) (fun a U => a = #[(.int p0), (.int p1)] ∧ Z.Warmed39 U.vm ∧ U.heap = h0) (fun _ _ _ _ _ => True) (fun _ U o U' => ∃ v L, o = .returned v ∧ own_Q5 Z p0 p1 h0 n0 v U'.heap L ∧ FrameEnd U o U' L own_R5.cells own_R5.slots) := by
  refine own_met (Q := own_Q5 Z p0 p1 h0 n0) (by decide +kernel) (own_ef5 p0 p1) ?_
  intro p e s m below meth c T0 hx hby hml hown hnm hret hlk hZ e0 X0
  have N0 := Fr.nil n0
  refine own_up (S' := T0.setTop (mkF m 1 #[.val (.int p0), .val (.int p1)] [(.int p0)])) (fun t kk => XS.iloadN X0.here hx rfl (hb hby d5_0) rfl kk) ?_
  refine own_up (S' := T0.setTop (mkF m 2 #[.val (.int p0), .val (.int p1)] [(.int p1), (.int p0)])) (fun t kk => XS.iloadN X0.here hx rfl (hb hby d5_1) rfl kk) ?_
  by_cases hc2_1 : p0 < p1
  · have ihc2_1 : p0.toInt < p1.toInt := own_ilt hc2_1
    refine own_up (S' := T0.setTop (mkF m 9 #[.val (.int p0), .val (.int p1)] [])) (fun t kk => XS.icmpYes X0.here hx rfl (pc0 := 2) (pc' := 9) rfl (hb hby d5_2) rfl (XT.ii_lt_t hc2_1) (by decide) (by decide) kk) ?_
    refine own_up (S' := T0.setTop (mkF m 10 #[.val (.int p0), .val (.int p1)] [(.int p1)])) (fun t kk => XS.iloadN X0.here hx rfl (hb hby d5_9) rfl kk) ?_
    refine own_retI X0 hx hlk hret (hb hby d5_10) (by decide) (by decide) ?_
    show own_Q5 Z p0 p1 h0 n0 _ T0.heap _
    rw [e0]
    exact ⟨p1, rfl, by omega, N0, rfl⟩
  · have ihc2_1 : p1.toInt ≤ p0.toInt := own_inl hc2_1
    refine own_up (S' := T0.setTop (mkF m 5 #[.val (.int p0), .val (.int p1)] [])) (fun t kk => XS.icmpNo X0.here hx rfl (hb hby d5_2) rfl (XT.ii_lt_f hc2_1) kk) ?_
    refine own_up (S' := T0.setTop (mkF m 6 #[.val (.int p0), .val (.int p1)] [(.int p0)])) (fun t kk => XS.iloadN X0.here hx rfl (hb hby d5_5) rfl kk) ?_
    refine own_up (S' := T0.setTop (mkF m 10 #[.val (.int p0), .val (.int p1)] [(.int p0)])) (fun t kk => XS.goto X0.here hx rfl (pc0 := 6) (pc' := 10) rfl (hb hby d5_6) (by decide) (by decide) kk) ?_
    refine own_retI X0 hx hlk hret (hb hby d5_10) (by decide) (by decide) ?_
    show own_Q5 Z p0 p1 h0 n0 _ T0.heap _
    rw [e0]
    exact ⟨p0, rfl, by omega, N0, rfl⟩
theorem d6_0 : decode jdk_30_method_1_code 0 = .ok (.aload_n 0, 1) := by decide +kernel
theorem d6_1 : decode jdk_30_method_1_code 1 = .ok (.invokespecial 1, 3) := by decide +kernel
theorem d6_4 : decode jdk_30_method_1_code 4 = .ok (.return_, 1) := by decide +kernel
def own_R6 : Room := { frames := 1, cells := 0, slots := 0, locals := 12 }
theorem own_ef6 (oo : Addr) (m : MethodId) : entryFrame m #[(.ref oo)] 1 = mkF m 0 #[.val (.ref oo)] [] := by first | (simp [entryFrame, mkF, argsToLocals, Value.category]; done) | rfl
def own_Q6 (Z : State) (oo : Addr)  (h0 : Heap) (n0 : Nat) (v : Option Value) (h : Heap) (L : List Loc) : Prop := v = none ∧ Fr n0 L ∧ h = h0
set_option maxRecDepth 65536 in
set_option maxHeartbeats 40000000 in
theorem rm6 (l : Launch) (Z : State) (a0 : Array Value) (hw : ∀ d ∈ tables_1, d.before a0 Z = true) (ws : List Jvm.Cond) (oo : Addr)  (h0 : Heap) (n0 : Nat) (Z0 : n0 ≤ h0.size)  :
    MetFree l (⟨"java/lang/Record", "<init>", "()V"⟩ : MethodName) (head1 (Jvm.Cond.code (⟨"java/lang/Record", "<init>", "()V"⟩ : MethodName) jdk_30_method_1_code 1 none :: ws) own_R6) (fun a U => a = #[(.ref oo)] ∧ Z.Warmed39 U.vm ∧ U.heap = h0) (fun _ _ _ _ _ => True) (fun _ U o U' => ∃ v L, o = .returned v ∧ own_Q6 Z oo h0 n0 v U'.heap L ∧ FrameEnd U o U' L own_R6.cells own_R6.slots) := by
  refine own_met (Q := own_Q6 Z oo h0 n0) (plainFor_of_name (by first | (simp [plainName, overriddenIn]; done) | decide +kernel)) (own_ef6 oo) ?_
  intro p e s m below meth c T0 hx hby hml hown hnm hret hlk hZ e0 X0
  have N0 := Fr.nil n0
  refine own_up (S' := T0.setTop (mkF m 1 #[.val (.ref oo)] [(.ref oo)])) (fun t kk => XS.aloadN X0.here hx rfl (hb hby d6_0) rfl rfl kk) ?_
  refine own_init X0 hx hZ hown (hw _ (List.mem_of_getElem? (i := 38) rfl)) (hw _ (List.mem_of_getElem? (i := 21) rfl)) (hw _ (List.mem_of_getElem? (i := 22) rfl)) e0 0 (g' := (mkF m 4 #[.val (.ref oo)] [])) (hb hby d6_1) (by decide) (by decide) rfl (by rw [hml]; rfl) rfl (by show 2 * 0 + _ ≤ _; exact Nat.le_of_eq rfl) rfl ?_
  intro T1 X1 e1
  refine own_retV X1 hx hlk hret (hb hby d6_4) (by decide) (by decide) ?_
  show own_Q6 Z oo h0 n0 _ T1.heap _
  rw [e1]
  exact ⟨rfl, N0, rfl⟩
theorem d7_0 : decode prog_56_method_1_code 0 = .ok (.aload_n 0, 1) := by decide +kernel
theorem d7_1 : decode prog_56_method_1_code 1 = .ok (.invokespecial 1, 3) := by decide +kernel
theorem d7_4 : decode prog_56_method_1_code 4 = .ok (.iload_n 2, 1) := by decide +kernel
theorem d7_5 : decode prog_56_method_1_code 5 = .ok (.ifCond .gt 13, 3) := by decide +kernel
theorem d7_18 : decode prog_56_method_1_code 18 = .ok (.aload_n 0, 1) := by decide +kernel
theorem d7_19 : decode prog_56_method_1_code 19 = .ok (.aload_n 1, 1) := by decide +kernel
theorem d7_20 : decode prog_56_method_1_code 20 = .ok (.putfield 14, 3) := by decide +kernel
theorem d7_23 : decode prog_56_method_1_code 23 = .ok (.aload_n 0, 1) := by decide +kernel
theorem d7_24 : decode prog_56_method_1_code 24 = .ok (.iload_n 2, 1) := by decide +kernel
theorem d7_25 : decode prog_56_method_1_code 25 = .ok (.putfield 20, 3) := by decide +kernel
theorem d7_28 : decode prog_56_method_1_code 28 = .ok (.return_, 1) := by decide +kernel
def own_R7 : Room := { frames := 2, cells := 0, slots := 0, locals := 24 }
theorem own_ef7 (oo : Addr) (p1 : Addr) (p2 : Int32) (m : MethodId) : entryFrame m #[(.ref oo), (.ref p1), (.int p2)] 3 = mkF m 0 #[.val (.ref oo), .val (.ref p1), .val (.int p2)] [] := by first | (simp [entryFrame, mkF, argsToLocals, Value.category]; done) | rfl
def own_Q7 (Z : State) (oo : Addr) (p1 : Addr) (p2 : Int32)  (h0 : Heap) (n0 : Nat) (v : Option Value) (h : Heap) (L : List Loc) : Prop := v = none ∧ Fr n0 L ∧ Keep h0 h [oo] ∧ Fld Z h oo "com/example/vestwright/vestwright/vesting/Reemployment" "minimumBreaks" "I" (.int p2)
set_option maxRecDepth 65536 in
set_option maxHeartbeats 40000000 in
theorem rm7 (l : Launch) (Z : State) (a0 : Array Value) (hw : ∀ d ∈ tables_1, d.before a0 Z = true) (ws : List Jvm.Cond) (oo : Addr) (p1 : Addr) (p2 : Int32)  (h0 : Heap) (n0 : Nat) (Z0 : n0 ≤ h0.size) (Fs : Fld Z h0 oo "com/example/vestwright/vestwright/vesting/Reemployment" "section" "Ljava/lang/String;" .null) (Fm : Fld Z h0 oo "com/example/vestwright/vestwright/vesting/Reemployment" "minimumBreaks" "I" (.int (0 : Int32))) (Et : Exa Z h0 oo "com/example/vestwright/vestwright/vesting/Reemployment") (gt : n0 ≤ oo) (hp : 0 < p2) :
    MetFree l (⟨"com/example/vestwright/vestwright/vesting/Reemployment", "<init>", "(Ljava/lang/String;I)V"⟩ : MethodName) (head1 (Jvm.Cond.code (⟨"com/example/vestwright/vestwright/vesting/Reemployment", "<init>", "(Ljava/lang/String;I)V"⟩ : MethodName) prog_56_method_1_code 3 none :: ws) own_R7) (fun a U => a = #[(.ref oo), (.ref p1), (.int p2)] ∧ Z.Warmed39 U.vm ∧ U.heap = h0) (fun _ _ _ _ _ => True) (fun _ U o U' => ∃ v L, o = .returned v ∧ own_Q7 Z oo p1 p2 h0 n0 v U'.heap L ∧ FrameEnd U o U' L own_R7.cells own_R7.slots) := by
  refine own_met (Q := own_Q7 Z oo p1 p2 h0 n0) (plainFor_of_name (by first | (simp [plainName, overriddenIn]; done) | decide +kernel)) (own_ef7 oo p1 p2) ?_
  intro p e s m below meth c T0 hx hby hml hown hnm hret hlk hZ e0 X0
  have N0 := Fr.nil n0
  refine own_up (S' := T0.setTop (mkF m 1 #[.val (.ref oo), .val (.ref p1), .val (.int p2)] [(.ref oo)])) (fun t kk => XS.aloadN X0.here hx rfl (hb hby d7_0) rfl rfl kk) ?_
  refine own_callI X0 hx hZ rfl hown (hw _ (List.mem_of_getElem? (i := 33) rfl)) (hw _ (List.mem_of_getElem? (i := 34) rfl)) (hw _ (List.mem_of_getElem? (i := 36) rfl)) (hw _ (List.mem_of_getElem? (i := 37) rfl)) (by decide) e0 (rm6 l Z a0 hw [] oo h0 n0 Z0 ) 0 oo [] [] (hb hby d7_1) (lenOf own_pd3 rfl) (by decide) (by decide) (by decide) (by decide) rfl (by rw [hml]; rfl) rfl (by show 2 * 0 + _ ≤ _; exact Nat.le_of_eq rfl) rfl ?_
  intro T1 L1 r1 X1 q1
  obtain ⟨rfl, M1, e1⟩ := q1
  have N1 := Fr.app N0 M1
  show own_Ends p e below s (own_Q7 Z oo p1 p2 h0 n0) own_R7.cells own_R7.slots (T1.setTop (mkF m 4 #[.val (.ref oo), .val (.ref p1), .val (.int p2)] []))
  refine own_up (S' := T1.setTop (mkF m 5 #[.val (.ref oo), .val (.ref p1), .val (.int p2)] [(.int p2)])) (fun t kk => XS.iloadN X1.here hx rfl (hb hby d7_4) rfl kk) ?_
  have hc5_2 : 0 < p2 := hp
  have ihc5_2 : 0 < p2.toInt := own_ilt hc5_2
  refine own_up (S' := T1.setTop (mkF m 18 #[.val (.ref oo), .val (.ref p1), .val (.int p2)] [])) (fun t kk => XS.ifYes X1.here hx rfl (pc0 := 5) (pc' := 18) rfl (hb hby d7_5) rfl (XT.i0_gt_t hc5_2) (by decide) (by decide) kk) ?_
  refine own_up (S' := T1.setTop (mkF m 19 #[.val (.ref oo), .val (.ref p1), .val (.int p2)] [(.ref oo)])) (fun t kk => XS.aloadN X1.here hx rfl (hb hby d7_18) rfl rfl kk) ?_
  refine own_up (S' := T1.setTop (mkF m 20 #[.val (.ref oo), .val (.ref p1), .val (.int p2)] [(.ref p1), (.ref oo)])) (fun t kk => XS.aloadN X1.here hx rfl (hb hby d7_19) rfl rfl kk) ?_
  refine own_put X1 hx hZ (.object "java/lang/String") hown (hw _ (List.mem_of_getElem? (i := 39) rfl)) Via.refl e1 Fs Et (Or.inr ⟨(hw _ (List.mem_of_getElem? (i := 40) rfl)), rfl, hnm⟩) (hw _ (List.mem_of_getElem? (i := 28) rfl)) (by decide) (v' := (.ref p1)) (rfl) (rfl) (g' := (mkF m 23 #[.val (.ref oo), .val (.ref p1), .val (.int p2)] [])) (hb hby d7_20) rfl rfl rfl ?_
  intro T3 h3 X3 e3 W3
  have Zn4 := Nat.le_trans Z0 (Nat.le_of_eq W3.size.symm)
  have Fm_5 := Fm.other W3 (Or.inr (slot_ne (Or.inr (hw _ (List.mem_of_getElem? (i := 42) rfl))) (Or.inr (hw _ (List.mem_of_getElem? (i := 40) rfl))) (by decide) (t := .int) (t' := (.object "java/lang/String")) (by decide) (by decide)))
  have Et_5 := Et.wr W3
  have Kp6 := (Keep.refl h0 [oo]).wr W3 (Or.inl (List.mem_of_getElem? (i := 0) rfl))
  have N3 := Fr.snoc X3 N1 gt
  have Fsection_3 := Fs.same W3
  refine own_up (S' := T3.setTop (mkF m 24 #[.val (.ref oo), .val (.ref p1), .val (.int p2)] [(.ref oo)])) (fun t kk => XS.aloadN X3.here hx rfl (hb hby d7_23) rfl rfl kk) ?_
  refine own_up (S' := T3.setTop (mkF m 25 #[.val (.ref oo), .val (.ref p1), .val (.int p2)] [(.int p2), (.ref oo)])) (fun t kk => XS.iloadN X3.here hx rfl (hb hby d7_24) rfl kk) ?_
  refine own_put X3 hx hZ .int hown (hw _ (List.mem_of_getElem? (i := 41) rfl)) Via.refl e3 Fm_5 Et_5 (Or.inr ⟨(hw _ (List.mem_of_getElem? (i := 42) rfl)), rfl, hnm⟩) (hw _ (List.mem_of_getElem? (i := 28) rfl)) (by decide) (v' := (.int p2)) (rfl) (rfl) (g' := (mkF m 28 #[.val (.ref oo), .val (.ref p1), .val (.int p2)] [])) (hb hby d7_25) rfl rfl rfl ?_
  intro T7 h7 X7 e7 W7
  have Zn8 := Nat.le_trans Zn4 (Nat.le_of_eq W7.size.symm)
  have Fsection_9 := Fsection_3.other W7 (Or.inr (slot_ne (Or.inr (hw _ (List.mem_of_getElem? (i := 40) rfl))) (Or.inr (hw _ (List.mem_of_getElem? (i := 42) rfl))) (by decide) (t := (.object "java/lang/String")) (t' := .int) (by decide) (by decide)))
  have Et_9 := Et_5.wr W7
  have Kp10 := Kp6.wr W7 (Or.inl (List.mem_of_getElem? (i := 0) rfl))
  have N7 := Fr.snoc X7 N3 gt
  have FminimumBreaks_7 := Fm_5.same W7
  refine own_retV X7 hx hlk hret (hb hby d7_28) (by decide) (by decide) ?_
  show own_Q7 Z oo p1 p2 h0 n0 _ T7.heap _
  rw [e7]
  exact ⟨rfl, N7, Kp10, FminimumBreaks_7⟩
theorem d8_0 : decode prog_56_method_2_code 0 = .ok (.iload_n 1, 1) := by decide +kernel
theorem d8_1 : decode prog_56_method_2_code 1 = .ok (.ifCond .ne 15, 3) := by decide +kernel
theorem d8_4 : decode prog_56_method_2_code 4 = .ok (.iload_n 2, 1) := by decide +kernel
theorem d8_5 : decode prog_56_method_2_code 5 = .ok (.aload_n 0, 1) := by decide +kernel
theorem d8_6 : decode prog_56_method_2_code 6 = .ok (.getfield 20, 3) := by decide +kernel
theorem d8_9 : decode prog_56_method_2_code 9 = .ok (.iload_n 3, 1) := by decide +kernel
theorem d8_10 : decode prog_56_method_2_code 10 = .ok (.invokestatic 24, 3) := by decide +kernel
theorem d8_13 : decode prog_56_method_2_code 13 = .ok (.if_icmp .ge 7, 3) := by decide +kernel
theorem d8_16 : decode prog_56_method_2_code 16 = .ok (.iconst 1, 1) := by decide +kernel
theorem d8_17 : decode prog_56_method_2_code 17 = .ok (.goto 4, 3) := by decide +kernel
theorem d8_20 : decode prog_56_method_2_code 20 = .ok (.iconst 0, 1) := by decide +kernel
theorem d8_21 : decode prog_56_method_2_code 21 = .ok (.ireturn, 1) := by decide +kernel
def own_R8 : Room := { frames := 1, cells := 0, slots := 0, locals := 14 }
theorem own_ef8 (oo : Addr) (p1 : Int32) (p2 : Int32) (p3 : Int32) (m : MethodId) : entryFrame m #[(.ref oo), (.int p1), (.int p2), (.int p3)] 4 = mkF m 0 #[.val (.ref oo), .val (.int p1), .val (.int p2), .val (.int p3)] [] := by first | (simp [entryFrame, mkF, argsToLocals, Value.category]; done) | rfl
def own_Q8 (Z : State) (oo : Addr) (p1 : Int32) (p2 : Int32) (p3 : Int32) (w0 : Int32) (h0 : Heap) (n0 : Nat) (v : Option Value) (h : Heap) (L : List Loc) : Prop := v = some (.int (own_cs p1 p2 p3 w0)) ∧ Fr n0 L ∧ h = h0
set_option maxRecDepth 65536 in
set_option maxHeartbeats 40000000 in
theorem rm8 (l : Launch) (Z : State) (a0 : Array Value) (hw : ∀ d ∈ tables_1, d.before a0 Z = true) (ws : List Jvm.Cond) (oo : Addr) (p1 : Int32) (p2 : Int32) (p3 : Int32) (w0 : Int32) (h0 : Heap) (n0 : Nat) (Z0 : n0 ≤ h0.size) (Fm : Fld Z h0 oo "com/example/vestwright/vestwright/vesting/Reemployment" "minimumBreaks" "I" (.int w0)) :
    MetFree l (⟨"com/example/vestwright/vestwright/vesting/Reemployment", "countsServiceBefore", "(ZII)Z"⟩ : MethodName) (head1 (Jvm.Cond.code (⟨"com/example/vestwright/vestwright/vesting/Reemployment", "countsServiceBefore", "(ZII)Z"⟩ : MethodName) prog_56_method_2_code 4 (some .boolean) :: ws) own_R8) (fun a U => a = #[(.ref oo), (.int p1), (.int p2), (.int p3)] ∧ Z.Warmed39 U.vm ∧ U.heap = h0) (fun _ _ _ _ _ => True) (fun _ U o U' => ∃ v L, o = .returned v ∧ own_Q8 Z oo p1 p2 p3 w0 h0 n0 v U'.heap L ∧ FrameEnd U o U' L own_R8.cells own_R8.slots) := by
  refine own_met (Q := own_Q8 Z oo p1 p2 p3 w0 h0 n0) (plainFor_of_name (by first | (simp [plainName, overriddenIn]; done) | decide +kernel)) (own_ef8 oo p1 p2 p3) ?_
  intro p e s m below meth c T0 hx hby hml hown hnm hret hlk hZ e0 X0
  have N0 := Fr.nil n0
  refine own_up (S' := T0.setTop (mkF m 1 #[.val (.ref oo), .val (.int p1), .val (.int p2), .val (.int p3)] [(.int p1)])) (fun t kk => XS.iloadN X0.here hx rfl (hb hby d8_0) rfl kk) ?_
  by_cases hc1_1 : p1 = 0
  · have ihc1_1 : p1.toInt = 0 := own_ieq hc1_1
    refine own_up (S' := T0.setTop (mkF m 4 #[.val (.ref oo), .val (.int p1), .val (.int p2), .val (.int p3)] [])) (fun t kk => XS.ifNo X0.here hx rfl (hb hby d8_1) rfl (XT.i0_ne_f hc1_1) kk) ?_
    refine own_up (S' := T0.setTop (mkF m 5 #[.val (.ref oo), .val (.int p1), .val (.int p2), .val (.int p3)] [(.int p2)])) (fun t kk => XS.iloadN X0.here hx rfl (hb hby d8_4) rfl kk) ?_
    refine own_up (S' := T0.setTop (mkF m 6 #[.val (.ref oo), .val (.int p1), .val (.int p2), .val (.int p3)] [(.ref oo), (.int p2)])) (fun t kk => XS.aloadN X0.here hx rfl (hb hby d8_5) rfl rfl kk) ?_
    refine own_get X0 hx hZ hown (hw _ (List.mem_of_getElem? (i := 41) rfl)) Via.refl e0 Fm (g' := (mkF m 9 #[.val (.ref oo), .val (.int p1), .val (.int p2), .val (.int p3)] [(.int w0), (.int p2)])) (hb hby d8_6) rfl rfl rfl ?_
    intro T2 X2 e2
    refine own_up (S' := T2.setTop (mkF m 10 #[.val (.ref oo), .val (.int p1), .val (.int p2), .val (.int p3)] [(.int p3), (.int w0), (.int p2)])) (fun t kk => XS.iloadN X2.here hx rfl (hb hby d8_9) rfl kk) ?_
    refine own_callS X2 hx hZ hown (hw _ (List.mem_of_getElem? (i := 48) rfl)) (hw _ (List.mem_of_getElem? (i := 49) rfl)) (hw _ (List.mem_of_getElem? (i := 50) rfl)) (hw _ (List.mem_of_getElem? (i := 51) rfl)) (by decide) e2 (rm5 l Z a0 hw [] w0 p3 h0 n0 Z0 ) 1 [(.int w0), (.int p3)] [(.int p2)] (hb hby d8_10) (lenOf own_pd4 rfl) (by decide) (by decide) (by decide) (by decide) rfl (by rw [hml]; rfl) rfl (by show 2 * 0 + _ ≤ _; exact Nat.le_of_eq rfl) rfl ?_
    intro T3 L3 r3 X3 q3
    obtain ⟨mx, rfl, hr_mx, M3, e3⟩ := q3
    have N3 := Fr.app N0 M3
    show own_Ends p e below s (own_Q8 Z oo p1 p2 p3 w0 h0 n0) own_R8.cells own_R8.slots (T3.setTop (mkF m 13 #[.val (.ref oo), .val (.int p1), .val (.int p2), .val (.int p3)] [(.int mx), (.int p2)]))
    by_cases hc13_4 : p2 < mx
    · have ihc13_4 : p2.toInt < mx.toInt := own_ilt hc13_4
      refine own_up (S' := T3.setTop (mkF m 16 #[.val (.ref oo), .val (.int p1), .val (.int p2), .val (.int p3)] [])) (fun t kk => XS.icmpNo X3.here hx rfl (hb hby d8_13) rfl (XT.ii_ge_f hc13_4) kk) ?_
      refine own_up (S' := T3.setTop (mkF m 17 #[.val (.ref oo), .val (.int p1), .val (.int p2), .val (.int p3)] [(.int (1 : Int32))])) (fun t kk => XT.iconstV X3.here hx rfl (1 : Int32) (hb hby d8_16) rfl kk) ?_
      refine own_up (S' := T3.setTop (mkF m 21 #[.val (.ref oo), .val (.int p1), .val (.int p2), .val (.int p3)] [(.int (1 : Int32))])) (fun t kk => XS.goto X3.here hx rfl (pc0 := 17) (pc' := 21) rfl (hb hby d8_17) (by decide) (by decide) kk) ?_
      refine own_retN X3 hx hlk (t := .boolean) hret (by simp) (z' := (1 : Int32)) rfl (hb hby d8_21) (by decide) (by decide) ?_
      show own_Q8 Z oo p1 p2 p3 w0 h0 n0 _ T3.heap _
      rw [e3]
      exact ⟨congrArg (fun q => some (Value.int q)) (own_cs_1 (by omega)), N3, rfl⟩
    · have ihc13_4 : mx.toInt ≤ p2.toInt := own_inl hc13_4
      refine own_up (S' := T3.setTop (mkF m 20 #[.val (.ref oo), .val (.int p1), .val (.int p2), .val (.int p3)] [])) (fun t kk => XS.icmpYes X3.here hx rfl (pc0 := 13) (pc' := 20) rfl (hb hby d8_13) rfl (XT.ii_ge_t hc13_4) (by decide) (by decide) kk) ?_
      refine own_up (S' := T3.setTop (mkF m 21 #[.val (.ref oo), .val (.int p1), .val (.int p2), .val (.int p3)] [(.int (0 : Int32))])) (fun t kk => XT.iconstV X3.here hx rfl (0 : Int32) (hb hby d8_20) rfl kk) ?_
      refine own_retN X3 hx hlk (t := .boolean) hret (by simp) (z' := (0 : Int32)) rfl (hb hby d8_21) (by decide) (by decide) ?_
      show own_Q8 Z oo p1 p2 p3 w0 h0 n0 _ T3.heap _
      rw [e3]
      exact ⟨congrArg (fun q => some (Value.int q)) (own_cs_0 (by omega)), N3, rfl⟩
  · have ihc1_1 : p1.toInt ≠ 0 := own_ine hc1_1
    refine own_up (S' := T0.setTop (mkF m 16 #[.val (.ref oo), .val (.int p1), .val (.int p2), .val (.int p3)] [])) (fun t kk => XS.ifYes X0.here hx rfl (pc0 := 1) (pc' := 16) rfl (hb hby d8_1) rfl (XT.i0_ne_t hc1_1) (by decide) (by decide) kk) ?_
    refine own_up (S' := T0.setTop (mkF m 17 #[.val (.ref oo), .val (.int p1), .val (.int p2), .val (.int p3)] [(.int (1 : Int32))])) (fun t kk => XT.iconstV X0.here hx rfl (1 : Int32) (hb hby d8_16) rfl kk) ?_
    refine own_up (S' := T0.setTop (mkF m 21 #[.val (.ref oo), .val (.int p1), .val (.int p2), .val (.int p3)] [(.int (1 : Int32))])) (fun t kk => XS.goto X0.here hx rfl (pc0 := 17) (pc' := 21) rfl (hb hby d8_17) (by decide) (by decide) kk) ?_
    refine own_retN X0 hx hlk (t := .boolean) hret (by simp) (z' := (1 : Int32)) rfl (hb hby d8_21) (by decide) (by decide) ?_
    show own_Q8 Z oo p1 p2 p3 w0 h0 n0 _ T0.heap _
    rw [e0]
    exact ⟨congrArg (fun q => some (Value.int q)) (own_cs_1 (by omega)), N0, rfl⟩
theorem own_ef0 (f1 : Int32) (mb : Int32) (bk : Int32) (yb : Int32) (sc : Int32) (m : MethodId) : entryFrame m #[(.int f1), (.int mb), (.int bk), (.int yb), (.int sc)] maxLocals = mkF m 0 #[.val (.int f1), .val (.int mb), .val (.int bk), .val (.int yb), .val (.int sc), .unset, .unset, .unset, .unset, .unset, .unset] [] := by first | (simp [entryFrame, mkF, argsToLocals, Value.category, maxLocals]; done) | rfl
def own_Q0 (Z : State) (f1 : Int32) (mb : Int32) (bk : Int32) (yb : Int32) (sc : Int32) (w9 : Int32) (h0 : Heap) (n0 : Nat) (v : Option Value) (h : Heap) (L : List Loc) : Prop := v = some (.int 1) ∧ Fr n0 L
set_option maxRecDepth 65536 in
set_option maxHeartbeats 40000000 in
theorem rm0 (l : Launch) (Z : State) (a0 : Array Value) (hw : ∀ d ∈ tables_1, d.before a0 Z = true) (ws : List Jvm.Cond) (f1 : Int32) (mb : Int32) (bk : Int32) (yb : Int32) (sc : Int32) (w9 : Int32) (h0 : Heap) (n0 : Nat) (Z0 : n0 ≤ h0.size) (Sc : Sta Z h0 "java/lang/String" "COMPACT_STRINGS" "Z" (.int w9)) (hw9 : ¬ (w9 = 0)) :
    MetFree l x (head1 (Jvm.Cond.code x code maxLocals ret :: ws) room_1) (fun a U => a = #[(.int f1), (.int mb), (.int bk), (.int yb), (.int sc)] ∧ Z.Warmed39 U.vm ∧ U.heap = h0) (fun _ _ _ _ _ => True) (fun _ U o U' => ∃ v L, o = .returned v ∧ own_Q0 Z f1 mb bk yb sc w9 h0 n0 v U'.heap L ∧ FrameEnd U o U' L room_1.cells room_1.slots) := by
  refine own_met (Q := own_Q0 Z f1 mb bk yb sc w9 h0 n0) (plainFor_of_name (by first | (simp [plainName, overriddenIn, x]; done) | decide +kernel)) (own_ef0 f1 mb bk yb sc) ?_
  intro p e s m below meth c T0 hx hby hml hown hnm hret hlk hZ e0 X0
  have hown : s.vm.findClass "com/example/vestwright/vestwright/vesting/ReemploymentCountsServiceBeforePinLaw" = some m.cls := hown
  have N0 := Fr.nil n0
  have zz1 : (1 : Int32).toInt = 1 := rfl
  have zz0 : (0 : Int32).toInt = 0 := rfl
  refine own_up (S' := T0.setTop (mkF m 1 #[.val (.int f1), .val (.int mb), .val (.int bk), .val (.int yb), .val (.int sc), .unset, .unset, .unset, .unset, .unset, .unset] [(.int mb)])) (fun t kk => XS.iloadN X0.here hx rfl (hb hby at_0) rfl kk) ?_
  refine own_up (S' := T0.setTop (mkF m 3 #[.val (.int f1), .val (.int mb), .val (.int bk), .val (.int yb), .val (.int sc), .unset, .unset, .unset, .unset, .unset, .unset] [(.int (2147483647 : Int32)), (.int mb)])) (fun t kk => X0.ldcI hx hown (mvT hZ (hw _ (List.mem_of_getElem? (i := 0) rfl))) rfl (hb hby at_1) kk) ?_
  refine own_up (S' := T0.setTop (mkF m 4 #[.val (.int f1), .val (.int mb), .val (.int bk), .val (.int yb), .val (.int sc), .unset, .unset, .unset, .unset, .unset, .unset] [(.int (mb &&& (2147483647 : Int32)))])) (fun t kk => XS.iand X0.here hx rfl (hb hby at_3) rfl kk) ?_
  obtain ⟨mm, h_mm⟩ : ∃ z : Int32, z = (mb &&& (2147483647 : Int32)) := ⟨_, rfl⟩
  rw [← h_mm]
  refine own_up (S' := T0.setTop (mkF m 6 #[.val (.int f1), .val (.int mb), .val (.int bk), .val (.int yb), .val (.int sc), .val (.int mm), .unset, .unset, .unset, .unset, .unset] [])) (fun t kk => XS.istore X0.here hx rfl (hb hby at_4) rfl (l' := #[.val (.int f1), .val (.int mb), .val (.int bk), .val (.int yb), .val (.int sc), .val (.int mm), .unset, .unset, .unset, .unset, .unset]) rfl kk) ?_
  have hmm := own_mm h_mm
  have J14_1 : ∀ (mv : Int32) (Lj1 : List Loc) (Nj1 : Fr n0 Lj1) (Tj1 : State) (Xj1 : Stand p l e room_1 s m #[(.int f1), (.int mb), (.int bk), (.int yb), (.int sc)] below meth c Tj1 Lj1 0 0) (ej1 : Tj1.heap = h0) (hmv : 0 < mv.toInt), own_Ends p e below s (own_Q0 Z f1 mb bk yb sc w9 h0 n0) room_1.cells room_1.slots (Tj1.setTop (mkF m 14 #[.val (.int f1), .val (.int mb), .val (.int bk), .val (.int yb), .val (.int sc), .val (.int mv), .unset, .unset, .unset, .unset, .unset] [])) := by
    intro mv Lj1 Nj1 Tj1 Xj1 ej1 hmv
    refine own_up (S' := Tj1.setTop (mkF m 15 #[.val (.int f1), .val (.int mb), .val (.int bk), .val (.int yb), .val (.int sc), .val (.int mv), .unset, .unset, .unset, .unset, .unset] [(.int f1)])) (fun t kk => XS.iloadN Xj1.here hx rfl (hb hby at_14) rfl kk) ?_
    refine own_up (S' := Tj1.setTop (mkF m 16 #[.val (.int f1), .val (.int mb), .val (.int bk), .val (.int yb), .val (.int sc), .val (.int mv), .unset, .unset, .unset, .unset, .unset] [(.int (1 : Int32)), (.int f1)])) (fun t kk => XT.iconstV Xj1.here hx rfl (1 : Int32) (hb hby at_15) rfl kk) ?_
    refine own_up (S' := Tj1.setTop (mkF m 17 #[.val (.int f1), .val (.int mb), .val (.int bk), .val (.int yb), .val (.int sc), .val (.int mv), .unset, .unset, .unset, .unset, .unset] [(.int (f1 &&& (1 : Int32)))])) (fun t kk => XS.iand Xj1.here hx rfl (hb hby at_16) rfl kk) ?_
    by_cases hc17_2 : (f1 &&& (1 : Int32)) = 0
    · have ihc17_2 : (f1 &&& (1 : Int32)).toInt = 0 := own_ieq hc17_2
      refine own_up (S' := Tj1.setTop (mkF m 24 #[.val (.int f1), .val (.int mb), .val (.int bk), .val (.int yb), .val (.int sc), .val (.int mv), .unset, .unset, .unset, .unset, .unset] [])) (fun t kk => XS.ifYes Xj1.here hx rfl (pc0 := 17) (pc' := 24) rfl (hb hby at_17) rfl (XT.i0_eq_t hc17_2) (by decide) (by decide) kk) ?_
      refine own_up (S' := Tj1.setTop (mkF m 25 #[.val (.int f1), .val (.int mb), .val (.int bk), .val (.int yb), .val (.int sc), .val (.int mv), .unset, .unset, .unset, .unset, .unset] [(.int (0 : Int32))])) (fun t kk => XT.iconstV Xj1.here hx rfl (0 : Int32) (hb hby at_24) rfl kk) ?_
      refine own_up (S' := Tj1.setTop (mkF m 27 #[.val (.int f1), .val (.int mb), .val (.int bk), .val (.int yb), .val (.int sc), .val (.int mv), .val (.int (0 : Int32)), .unset, .unset, .unset, .unset] [])) (fun t kk => XS.istore Xj1.here hx rfl (hb hby at_25) rfl (l' := #[.val (.int f1), .val (.int mb), .val (.int bk), .val (.int yb), .val (.int sc), .val (.int mv), .val (.int (0 : Int32)), .unset, .unset, .unset, .unset]) rfl kk) ?_
      refine own_up (S' := Tj1.setTop (mkF m 29 #[.val (.int f1), .val (.int mb), .val (.int bk), .val (.int yb), .val (.int sc), .val (.int mv), .val (.int (0 : Int32)), .unset, .unset, .unset, .unset] [(.int sc)])) (fun t kk => XS.iload Xj1.here hx rfl (hb hby at_27) rfl kk) ?_
      refine own_up (S' := Tj1.setTop (mkF m 32 #[.val (.int f1), .val (.int mb), .val (.int bk), .val (.int yb), .val (.int sc), .val (.int mv), .val (.int (0 : Int32)), .unset, .unset, .unset, .unset] [(.int (255 : Int32)), (.int sc)])) (fun t kk => XT.sipushV Xj1.here hx rfl (255 : Int32) (hb hby at_29) rfl kk) ?_
      refine own_up (S' := Tj1.setTop (mkF m 33 #[.val (.int f1), .val (.int mb), .val (.int bk), .val (.int yb), .val (.int sc), .val (.int mv), .val (.int (0 : Int32)), .unset, .unset, .unset, .unset] [(.int (sc &&& (255 : Int32)))])) (fun t kk => XS.iand Xj1.here hx rfl (hb hby at_32) rfl kk) ?_
      refine own_up (S' := Tj1.setTop (mkF m 34 #[.val (.int f1), .val (.int mb), .val (.int bk), .val (.int yb), .val (.int sc), .val (.int mv), .val (.int (0 : Int32)), .unset, .unset, .unset, .unset] [(.int (sc &&& (255 : Int32)).toUInt32.toUInt16.toUInt32.toInt32)])) (fun t kk => XT.i2c Xj1.here hx rfl (hb hby at_33) rfl kk) ?_
      refine own_callS Xj1 hx hZ hown (hw _ (List.mem_of_getElem? (i := 1) rfl)) (hw _ (List.mem_of_getElem? (i := 2) rfl)) (hw _ (List.mem_of_getElem? (i := 3) rfl)) (hw _ (List.mem_of_getElem? (i := 4) rfl)) (by decide) ej1 (rm4 l Z a0 hw [] (sc &&& (255 : Int32)).toUInt32.toUInt16.toUInt32.toInt32 w9 h0 n0 Z0 Sc (hw9) (own_ch sc)) 0 [(.int (sc &&& (255 : Int32)).toUInt32.toUInt16.toUInt32.toInt32)] [] (hb hby at_34) (lenOf own_pd5 rfl) (by decide) (by decide) (by decide) (by decide) rfl (by rw [hml]; rfl) rfl (by show 2 * 0 + _ ≤ _; exact Nat.le_of_eq rfl) rfl ?_
      intro T3 L3 r3 X3 q3
      obtain ⟨r_3, rfl, hr_3, M3, K3⟩ := q3
      have N3 := Fr.app Nj1 M3
      have Zn4 := Nat.le_trans Z0 K3.1
      show own_Ends p e below s (own_Q0 Z f1 mb bk yb sc w9 h0 n0) room_1.cells room_1.slots (T3.setTop (mkF m 37 #[.val (.int f1), .val (.int mb), .val (.int bk), .val (.int yb), .val (.int sc), .val (.int mv), .val (.int (0 : Int32)), .unset, .unset, .unset, .unset] [(.ref r_3)]))
      refine own_up (S' := T3.setTop (mkF m 39 #[.val (.int f1), .val (.int mb), .val (.int bk), .val (.int yb), .val (.int sc), .val (.int mv), .val (.int (0 : Int32)), .val (.ref r_3), .unset, .unset, .unset] [])) (fun t kk => XS.astore X3.here hx rfl (hb hby at_37) rfl rfl (l' := #[.val (.int f1), .val (.int mb), .val (.int bk), .val (.int yb), .val (.int sc), .val (.int mv), .val (.int (0 : Int32)), .val (.ref r_3), .unset, .unset, .unset]) rfl kk) ?_
      refine own_new X3 hx hZ hown (hw _ (List.mem_of_getElem? (i := 27) rfl)) (hw _ (List.mem_of_getElem? (i := 28) rfl)) (hw _ (List.mem_of_getElem? (i := 29) rfl)) rfl rfl (hb hby at_39) (by decide) (by decide) ?_
      intro T6 h6 ob hb6 X6 e6 E6 A6 D6
      have g_ob : n0 ≤ ob := Nat.le_trans Zn4 (Nat.le_of_eq hb6.symm)
      have Zn7 := Nat.le_trans Zn4 E6.1
      have Fsection_ob : Fld Z h6 ob "com/example/vestwright/vestwright/vesting/Reemployment" "section" "Ljava/lang/String;" .null := D6 (Or.inr (hw _ (List.mem_of_getElem? (i := 40) rfl))) (ty := (.object "java/lang/String")) (by decide)
      have FminimumBreaks_ob : Fld Z h6 ob "com/example/vestwright/vestwright/vesting/Reemployment" "minimumBreaks" "I" (.int (0 : Int32)) := D6 (Or.inr (hw _ (List.mem_of_getElem? (i := 42) rfl))) (ty := .int) (by decide)
      show own_Ends p e below s (own_Q0 Z f1 mb bk yb sc w9 h0 n0) room_1.cells room_1.slots (T6.setTop (mkF m 42 #[.val (.int f1), .val (.int mb), .val (.int bk), .val (.int yb), .val (.int sc), .val (.int mv), .val (.int (0 : Int32)), .val (.ref r_3), .unset, .unset, .unset] [(.ref ob)]))
      refine own_up (S' := T6.setTop (mkF m 43 #[.val (.int f1), .val (.int mb), .val (.int bk), .val (.int yb), .val (.int sc), .val (.int mv), .val (.int (0 : Int32)), .val (.ref r_3), .unset, .unset, .unset] [(.ref ob), (.ref ob)])) (fun t kk => XS.dup X6.here hx rfl (hb hby at_42) rfl rfl kk) ?_
      refine own_up (S' := T6.setTop (mkF m 45 #[.val (.int f1), .val (.int mb), .val (.int bk), .val (.int yb), .val (.int sc), .val (.int mv), .val (.int (0 : Int32)), .val (.ref r_3), .unset, .unset, .unset] [(.ref r_3), (.ref ob), (.ref ob)])) (fun t kk => XS.aload X6.here hx rfl (hb hby at_43) rfl rfl kk) ?_
      refine own_up (S' := T6.setTop (mkF m 47 #[.val (.int f1), .val (.int mb), .val (.int bk), .val (.int yb), .val (.int sc), .val (.int mv), .val (.int (0 : Int32)), .val (.ref r_3), .unset, .unset, .unset] [(.int mv), (.ref r_3), (.ref ob), (.ref ob)])) (fun t kk => XS.iload X6.here hx rfl (hb hby at_45) rfl kk) ?_
      refine own_callI X6 hx hZ rfl hown (hw _ (List.mem_of_getElem? (i := 30) rfl)) (hw _ (List.mem_of_getElem? (i := 31) rfl)) (hw _ (List.mem_of_getElem? (i := 29) rfl)) (hw _ (List.mem_of_getElem? (i := 32) rfl)) (by decide) e6 (rm7 l Z a0 hw [] ob r_3 mv h6 n0 Zn7 Fsection_ob FminimumBreaks_ob A6 g_ob (own_ilt_of (x := 0) hmv)) 1 ob [(.ref r_3), (.int mv)] [(.ref ob)] (hb hby at_47) (lenOf own_pd6 rfl) (by decide) (by decide) (by decide) (by decide) rfl (by rw [hml]; rfl) rfl (by show 2 * 0 + _ ≤ _; exact Nat.le_of_eq rfl) rfl ?_
      intro T9 L9 r9 X9 q9
      obtain ⟨rfl, M9, K9, G9a_9⟩ := q9
      have N9 := Fr.app N3 M9
      have Zn10 := Nat.le_trans Zn7 K9.1
      have A6_11 := A6.keep K9
      show own_Ends p e below s (own_Q0 Z f1 mb bk yb sc w9 h0 n0) room_1.cells room_1.slots (T9.setTop (mkF m 50 #[.val (.int f1), .val (.int mb), .val (.int bk), .val (.int yb), .val (.int sc), .val (.int mv), .val (.int (0 : Int32)), .val (.ref r_3), .unset, .unset, .unset] [(.ref ob)]))
      refine own_up (S' := T9.setTop (mkF m 52 #[.val (.int f1), .val (.int mb), .val (.int bk), .val (.int yb), .val (.int sc), .val (.int mv), .val (.int (0 : Int32)), .val (.ref r_3), .val (.ref ob), .unset, .unset] [])) (fun t kk => XS.astore X9.here hx rfl (hb hby at_50) rfl rfl (l' := #[.val (.int f1), .val (.int mb), .val (.int bk), .val (.int yb), .val (.int sc), .val (.int mv), .val (.int (0 : Int32)), .val (.ref r_3), .val (.ref ob), .unset, .unset]) rfl kk) ?_
      refine own_up (S' := T9.setTop (mkF m 54 #[.val (.int f1), .val (.int mb), .val (.int bk), .val (.int yb), .val (.int sc), .val (.int mv), .val (.int (0 : Int32)), .val (.ref r_3), .val (.ref ob), .unset, .unset] [(.ref ob)])) (fun t kk => XS.aload X9.here hx rfl (hb hby at_52) rfl rfl kk) ?_
      refine own_up (S' := T9.setTop (mkF m 56 #[.val (.int f1), .val (.int mb), .val (.int bk), .val (.int yb), .val (.int sc), .val (.int mv), .val (.int (0 : Int32)), .val (.ref r_3), .val (.ref ob), .unset, .unset] [(.int (0 : Int32)), (.ref ob)])) (fun t kk => XS.iload X9.here hx rfl (hb hby at_54) rfl kk) ?_
      refine own_up (S' := T9.setTop (mkF m 57 #[.val (.int f1), .val (.int mb), .val (.int bk), .val (.int yb), .val (.int sc), .val (.int mv), .val (.int (0 : Int32)), .val (.ref r_3), .val (.ref ob), .unset, .unset] [(.int bk), (.int (0 : Int32)), (.ref ob)])) (fun t kk => XS.iloadN X9.here hx rfl (hb hby at_56) rfl kk) ?_
      refine own_up (S' := T9.setTop (mkF m 58 #[.val (.int f1), .val (.int mb), .val (.int bk), .val (.int yb), .val (.int sc), .val (.int mv), .val (.int (0 : Int32)), .val (.ref r_3), .val (.ref ob), .unset, .unset] [(.int yb), (.int bk), (.int (0 : Int32)), (.ref ob)])) (fun t kk => XS.iloadN X9.here hx rfl (hb hby at_57) rfl kk) ?_
      refine own_callV X9 hx hZ hown (hw _ (List.mem_of_getElem? (i := 43) rfl)) (hw _ (List.mem_of_getElem? (i := 44) rfl)) (hw _ (List.mem_of_getElem? (i := 46) rfl)) (hw _ (List.mem_of_getElem? (i := 45) rfl)) (hw _ (List.mem_of_getElem? (i := 29) rfl)) (hw _ (List.mem_of_getElem? (i := 47) rfl)) (by decide) rfl (rm8 l Z a0 hw [] ob (0 : Int32) bk yb mv T9.heap n0 Zn10 G9a_9) 0 A6_11 [(.int (0 : Int32)), (.int bk), (.int yb)] [] (hb hby at_58) (lenOf own_pd7 rfl) (by decide) (by decide) (by decide) (by decide) rfl (by rw [hml]; rfl) rfl (by show 2 * 0 + _ ≤ _; exact Nat.le_of_eq rfl) rfl ?_
      intro T12 L12 r12 X12 q12
      obtain ⟨rfl, M12, e12⟩ := q12
      have N12 := Fr.app N9 M12
      show own_Ends p e below s (own_Q0 Z f1 mb bk yb sc w9 h0 n0) room_1.cells room_1.slots (T12.setTop (mkF m 61 #[.val (.int f1), .val (.int mb), .val (.int bk), .val (.int yb), .val (.int sc), .val (.int mv), .val (.int (0 : Int32)), .val (.ref r_3), .val (.ref ob), .unset, .unset] [(.int (own_cs (0 : Int32) bk yb mv))]))
      obtain ⟨got, h_got⟩ : ∃ z : Int32, z = (own_cs (0 : Int32) bk yb mv) := ⟨_, rfl⟩
      rw [← h_got]
      refine own_up (S' := T12.setTop (mkF m 63 #[.val (.int f1), .val (.int mb), .val (.int bk), .val (.int yb), .val (.int sc), .val (.int mv), .val (.int (0 : Int32)), .val (.ref r_3), .val (.ref ob), .val (.int got), .unset] [])) (fun t kk => XS.istore X12.here hx rfl (hb hby at_61) rfl (l' := #[.val (.int f1), .val (.int mb), .val (.int bk), .val (.int yb), .val (.int sc), .val (.int mv), .val (.int (0 : Int32)), .val (.ref r_3), .val (.ref ob), .val (.int got), .unset]) rfl kk) ?_
      refine own_up (S' := T12.setTop (mkF m 65 #[.val (.int f1), .val (.int mb), .val (.int bk), .val (.int yb), .val (.int sc), .val (.int mv), .val (.int (0 : Int32)), .val (.ref r_3), .val (.ref ob), .val (.int got), .unset] [(.int (0 : Int32))])) (fun t kk => XS.iload X12.here hx rfl (hb hby at_63) rfl kk) ?_
      have hc65_13 : (0 : Int32) = 0 := by decide
      refine own_up (S' := T12.setTop (mkF m 74 #[.val (.int f1), .val (.int mb), .val (.int bk), .val (.int yb), .val (.int sc), .val (.int mv), .val (.int (0 : Int32)), .val (.ref r_3), .val (.ref ob), .val (.int got), .unset] [])) (fun t kk => XS.ifYes X12.here hx rfl (pc0 := 65) (pc' := 74) rfl (hb hby at_65) rfl (XT.i0_eq_t hc65_13) (by decide) (by decide) kk) ?_
      refine own_up (S' := T12.setTop (mkF m 75 #[.val (.int f1), .val (.int mb), .val (.int bk), .val (.int yb), .val (.int sc), .val (.int mv), .val (.int (0 : Int32)), .val (.ref r_3), .val (.ref ob), .val (.int got), .unset] [(.int bk)])) (fun t kk => XS.iloadN X12.here hx rfl (hb hby at_74) rfl kk) ?_
      refine own_up (S' := T12.setTop (mkF m 77 #[.val (.int f1), .val (.int mb), .val (.int bk), .val (.int yb), .val (.int sc), .val (.int mv), .val (.int (0 : Int32)), .val (.ref r_3), .val (.ref ob), .val (.int got), .unset] [(.int mv), (.int bk)])) (fun t kk => XS.iload X12.here hx rfl (hb hby at_75) rfl kk) ?_
      by_cases hc77_14 : bk < mv
      · have ihc77_14 : bk.toInt < mv.toInt := own_ilt hc77_14
        refine own_up (S' := T12.setTop (mkF m 80 #[.val (.int f1), .val (.int mb), .val (.int bk), .val (.int yb), .val (.int sc), .val (.int mv), .val (.int (0 : Int32)), .val (.ref r_3), .val (.ref ob), .val (.int got), .unset] [])) (fun t kk => XS.icmpNo X12.here hx rfl (hb hby at_77) rfl (XT.ii_ge_f hc77_14) kk) ?_
        refine own_up (S' := T12.setTop (mkF m 81 #[.val (.int f1), .val (.int mb), .val (.int bk), .val (.int yb), .val (.int sc), .val (.int mv), .val (.int (0 : Int32)), .val (.ref r_3), .val (.ref ob), .val (.int got), .unset] [(.int (1 : Int32))])) (fun t kk => XT.iconstV X12.here hx rfl (1 : Int32) (hb hby at_80) rfl kk) ?_
        refine own_up (S' := T12.setTop (mkF m 83 #[.val (.int f1), .val (.int mb), .val (.int bk), .val (.int yb), .val (.int sc), .val (.int mv), .val (.int (0 : Int32)), .val (.ref r_3), .val (.ref ob), .val (.int got), .val (.int (1 : Int32))] [])) (fun t kk => XS.istore X12.here hx rfl (hb hby at_81) rfl (l' := #[.val (.int f1), .val (.int mb), .val (.int bk), .val (.int yb), .val (.int sc), .val (.int mv), .val (.int (0 : Int32)), .val (.ref r_3), .val (.ref ob), .val (.int got), .val (.int (1 : Int32))]) rfl kk) ?_
        refine own_up (S' := T12.setTop (mkF m 100 #[.val (.int f1), .val (.int mb), .val (.int bk), .val (.int yb), .val (.int sc), .val (.int mv), .val (.int (0 : Int32)), .val (.ref r_3), .val (.ref ob), .val (.int got), .val (.int (1 : Int32))] [])) (fun t kk => XS.goto X12.here hx rfl (pc0 := 83) (pc' := 100) rfl (hb hby at_83) (by decide) (by decide) kk) ?_
        refine own_up (S' := T12.setTop (mkF m 102 #[.val (.int f1), .val (.int mb), .val (.int bk), .val (.int yb), .val (.int sc), .val (.int mv), .val (.int (0 : Int32)), .val (.ref r_3), .val (.ref ob), .val (.int got), .val (.int (1 : Int32))] [(.int got)])) (fun t kk => XS.iload X12.here hx rfl (hb hby at_100) rfl kk) ?_
        refine own_up (S' := T12.setTop (mkF m 104 #[.val (.int f1), .val (.int mb), .val (.int bk), .val (.int yb), .val (.int sc), .val (.int mv), .val (.int (0 : Int32)), .val (.ref r_3), .val (.ref ob), .val (.int got), .val (.int (1 : Int32))] [(.int (1 : Int32)), (.int got)])) (fun t kk => XS.iload X12.here hx rfl (hb hby at_102) rfl kk) ?_
        have hc104_15 : got = (1 : Int32) := by rw [h_got]; exact (own_cs_1 (by omega)).symm
        have ihc104_15 : got.toInt = 1 := own_ieq hc104_15
        refine own_up (S' := T12.setTop (mkF m 107 #[.val (.int f1), .val (.int mb), .val (.int bk), .val (.int yb), .val (.int sc), .val (.int mv), .val (.int (0 : Int32)), .val (.ref r_3), .val (.ref ob), .val (.int got), .val (.int (1 : Int32))] [])) (fun t kk => XS.icmpNo X12.here hx rfl (hb hby at_104) rfl (XT.ii_ne_f hc104_15) kk) ?_
        refine own_up (S' := T12.setTop (mkF m 108 #[.val (.int f1), .val (.int mb), .val (.int bk), .val (.int yb), .val (.int sc), .val (.int mv), .val (.int (0 : Int32)), .val (.ref r_3), .val (.ref ob), .val (.int got), .val (.int (1 : Int32))] [(.int (1 : Int32))])) (fun t kk => XT.iconstV X12.here hx rfl (1 : Int32) (hb hby at_107) rfl kk) ?_
        refine own_up (S' := T12.setTop (mkF m 112 #[.val (.int f1), .val (.int mb), .val (.int bk), .val (.int yb), .val (.int sc), .val (.int mv), .val (.int (0 : Int32)), .val (.ref r_3), .val (.ref ob), .val (.int got), .val (.int (1 : Int32))] [(.int (1 : Int32))])) (fun t kk => XS.goto X12.here hx rfl (pc0 := 108) (pc' := 112) rfl (hb hby at_108) (by decide) (by decide) kk) ?_
        refine own_retN X12 hx hlk (t := .boolean) hret (by simp) (z' := (1 : Int32)) rfl (hb hby at_112) (by decide) (by decide) ?_
        show own_Q0 Z f1 mb bk yb sc w9 h0 n0 _ T12.heap _
        rw [e12]
        exact ⟨rfl, N12⟩
      · have ihc77_14 : mv.toInt ≤ bk.toInt := own_inl hc77_14
        refine own_up (S' := T12.setTop (mkF m 86 #[.val (.int f1), .val (.int mb), .val (.int bk), .val (.int yb), .val (.int sc), .val (.int mv), .val (.int (0 : Int32)), .val (.ref r_3), .val (.ref ob), .val (.int got), .unset] [])) (fun t kk => XS.icmpYes X12.here hx rfl (pc0 := 77) (pc' := 86) rfl (hb hby at_77) rfl (XT.ii_ge_t hc77_14) (by decide) (by decide) kk) ?_
        refine own_up (S' := T12.setTop (mkF m 87 #[.val (.int f1), .val (.int mb), .val (.int bk), .val (.int yb), .val (.int sc), .val (.int mv), .val (.int (0 : Int32)), .val (.ref r_3), .val (.ref ob), .val (.int got), .unset] [(.int bk)])) (fun t kk => XS.iloadN X12.here hx rfl (hb hby at_86) rfl kk) ?_
        refine own_up (S' := T12.setTop (mkF m 88 #[.val (.int f1), .val (.int mb), .val (.int bk), .val (.int yb), .val (.int sc), .val (.int mv), .val (.int (0 : Int32)), .val (.ref r_3), .val (.ref ob), .val (.int got), .unset] [(.int yb), (.int bk)])) (fun t kk => XS.iloadN X12.here hx rfl (hb hby at_87) rfl kk) ?_
        by_cases hc88_16 : bk < yb
        · have ihc88_16 : bk.toInt < yb.toInt := own_ilt hc88_16
          refine own_up (S' := T12.setTop (mkF m 91 #[.val (.int f1), .val (.int mb), .val (.int bk), .val (.int yb), .val (.int sc), .val (.int mv), .val (.int (0 : Int32)), .val (.ref r_3), .val (.ref ob), .val (.int got), .unset] [])) (fun t kk => XS.icmpNo X12.here hx rfl (hb hby at_88) rfl (XT.ii_ge_f hc88_16) kk) ?_
          refine own_up (S' := T12.setTop (mkF m 92 #[.val (.int f1), .val (.int mb), .val (.int bk), .val (.int yb), .val (.int sc), .val (.int mv), .val (.int (0 : Int32)), .val (.ref r_3), .val (.ref ob), .val (.int got), .unset] [(.int (1 : Int32))])) (fun t kk => XT.iconstV X12.here hx rfl (1 : Int32) (hb hby at_91) rfl kk) ?_
          refine own_up (S' := T12.setTop (mkF m 94 #[.val (.int f1), .val (.int mb), .val (.int bk), .val (.int yb), .val (.int sc), .val (.int mv), .val (.int (0 : Int32)), .val (.ref r_3), .val (.ref ob), .val (.int got), .val (.int (1 : Int32))] [])) (fun t kk => XS.istore X12.here hx rfl (hb hby at_92) rfl (l' := #[.val (.int f1), .val (.int mb), .val (.int bk), .val (.int yb), .val (.int sc), .val (.int mv), .val (.int (0 : Int32)), .val (.ref r_3), .val (.ref ob), .val (.int got), .val (.int (1 : Int32))]) rfl kk) ?_
          refine own_up (S' := T12.setTop (mkF m 100 #[.val (.int f1), .val (.int mb), .val (.int bk), .val (.int yb), .val (.int sc), .val (.int mv), .val (.int (0 : Int32)), .val (.ref r_3), .val (.ref ob), .val (.int got), .val (.int (1 : Int32))] [])) (fun t kk => XS.goto X12.here hx rfl (pc0 := 94) (pc' := 100) rfl (hb hby at_94) (by decide) (by decide) kk) ?_
          refine own_up (S' := T12.setTop (mkF m 102 #[.val (.int f1), .val (.int mb), .val (.int bk), .val (.int yb), .val (.int sc), .val (.int mv), .val (.int (0 : Int32)), .val (.ref r_3), .val (.ref ob), .val (.int got), .val (.int (1 : Int32))] [(.int got)])) (fun t kk => XS.iload X12.here hx rfl (hb hby at_100) rfl kk) ?_
          refine own_up (S' := T12.setTop (mkF m 104 #[.val (.int f1), .val (.int mb), .val (.int bk), .val (.int yb), .val (.int sc), .val (.int mv), .val (.int (0 : Int32)), .val (.ref r_3), .val (.ref ob), .val (.int got), .val (.int (1 : Int32))] [(.int (1 : Int32)), (.int got)])) (fun t kk => XS.iload X12.here hx rfl (hb hby at_102) rfl kk) ?_
          have hc104_17 : got = (1 : Int32) := by rw [h_got]; exact (own_cs_1 (by omega)).symm
          have ihc104_17 : got.toInt = 1 := own_ieq hc104_17
          refine own_up (S' := T12.setTop (mkF m 107 #[.val (.int f1), .val (.int mb), .val (.int bk), .val (.int yb), .val (.int sc), .val (.int mv), .val (.int (0 : Int32)), .val (.ref r_3), .val (.ref ob), .val (.int got), .val (.int (1 : Int32))] [])) (fun t kk => XS.icmpNo X12.here hx rfl (hb hby at_104) rfl (XT.ii_ne_f hc104_17) kk) ?_
          refine own_up (S' := T12.setTop (mkF m 108 #[.val (.int f1), .val (.int mb), .val (.int bk), .val (.int yb), .val (.int sc), .val (.int mv), .val (.int (0 : Int32)), .val (.ref r_3), .val (.ref ob), .val (.int got), .val (.int (1 : Int32))] [(.int (1 : Int32))])) (fun t kk => XT.iconstV X12.here hx rfl (1 : Int32) (hb hby at_107) rfl kk) ?_
          refine own_up (S' := T12.setTop (mkF m 112 #[.val (.int f1), .val (.int mb), .val (.int bk), .val (.int yb), .val (.int sc), .val (.int mv), .val (.int (0 : Int32)), .val (.ref r_3), .val (.ref ob), .val (.int got), .val (.int (1 : Int32))] [(.int (1 : Int32))])) (fun t kk => XS.goto X12.here hx rfl (pc0 := 108) (pc' := 112) rfl (hb hby at_108) (by decide) (by decide) kk) ?_
          refine own_retN X12 hx hlk (t := .boolean) hret (by simp) (z' := (1 : Int32)) rfl (hb hby at_112) (by decide) (by decide) ?_
          show own_Q0 Z f1 mb bk yb sc w9 h0 n0 _ T12.heap _
          rw [e12]
          exact ⟨rfl, N12⟩
        · have ihc88_16 : yb.toInt ≤ bk.toInt := own_inl hc88_16
          refine own_up (S' := T12.setTop (mkF m 97 #[.val (.int f1), .val (.int mb), .val (.int bk), .val (.int yb), .val (.int sc), .val (.int mv), .val (.int (0 : Int32)), .val (.ref r_3), .val (.ref ob), .val (.int got), .unset] [])) (fun t kk => XS.icmpYes X12.here hx rfl (pc0 := 88) (pc' := 97) rfl (hb hby at_88) rfl (XT.ii_ge_t hc88_16) (by decide) (by decide) kk) ?_
          refine own_up (S' := T12.setTop (mkF m 98 #[.val (.int f1), .val (.int mb), .val (.int bk), .val (.int yb), .val (.int sc), .val (.int mv), .val (.int (0 : Int32)), .val (.ref r_3), .val (.ref ob), .val (.int got), .unset] [(.int (0 : Int32))])) (fun t kk => XT.iconstV X12.here hx rfl (0 : Int32) (hb hby at_97) rfl kk) ?_
          refine own_up (S' := T12.setTop (mkF m 100 #[.val (.int f1), .val (.int mb), .val (.int bk), .val (.int yb), .val (.int sc), .val (.int mv), .val (.int (0 : Int32)), .val (.ref r_3), .val (.ref ob), .val (.int got), .val (.int (0 : Int32))] [])) (fun t kk => XS.istore X12.here hx rfl (hb hby at_98) rfl (l' := #[.val (.int f1), .val (.int mb), .val (.int bk), .val (.int yb), .val (.int sc), .val (.int mv), .val (.int (0 : Int32)), .val (.ref r_3), .val (.ref ob), .val (.int got), .val (.int (0 : Int32))]) rfl kk) ?_
          refine own_up (S' := T12.setTop (mkF m 102 #[.val (.int f1), .val (.int mb), .val (.int bk), .val (.int yb), .val (.int sc), .val (.int mv), .val (.int (0 : Int32)), .val (.ref r_3), .val (.ref ob), .val (.int got), .val (.int (0 : Int32))] [(.int got)])) (fun t kk => XS.iload X12.here hx rfl (hb hby at_100) rfl kk) ?_
          refine own_up (S' := T12.setTop (mkF m 104 #[.val (.int f1), .val (.int mb), .val (.int bk), .val (.int yb), .val (.int sc), .val (.int mv), .val (.int (0 : Int32)), .val (.ref r_3), .val (.ref ob), .val (.int got), .val (.int (0 : Int32))] [(.int (0 : Int32)), (.int got)])) (fun t kk => XS.iload X12.here hx rfl (hb hby at_102) rfl kk) ?_
          have hc104_18 : got = (0 : Int32) := by rw [h_got]; exact (own_cs_0 (by omega)).symm
          have ihc104_18 : got.toInt = 0 := own_ieq hc104_18
          refine own_up (S' := T12.setTop (mkF m 107 #[.val (.int f1), .val (.int mb), .val (.int bk), .val (.int yb), .val (.int sc), .val (.int mv), .val (.int (0 : Int32)), .val (.ref r_3), .val (.ref ob), .val (.int got), .val (.int (0 : Int32))] [])) (fun t kk => XS.icmpNo X12.here hx rfl (hb hby at_104) rfl (XT.ii_ne_f hc104_18) kk) ?_
          refine own_up (S' := T12.setTop (mkF m 108 #[.val (.int f1), .val (.int mb), .val (.int bk), .val (.int yb), .val (.int sc), .val (.int mv), .val (.int (0 : Int32)), .val (.ref r_3), .val (.ref ob), .val (.int got), .val (.int (0 : Int32))] [(.int (1 : Int32))])) (fun t kk => XT.iconstV X12.here hx rfl (1 : Int32) (hb hby at_107) rfl kk) ?_
          refine own_up (S' := T12.setTop (mkF m 112 #[.val (.int f1), .val (.int mb), .val (.int bk), .val (.int yb), .val (.int sc), .val (.int mv), .val (.int (0 : Int32)), .val (.ref r_3), .val (.ref ob), .val (.int got), .val (.int (0 : Int32))] [(.int (1 : Int32))])) (fun t kk => XS.goto X12.here hx rfl (pc0 := 108) (pc' := 112) rfl (hb hby at_108) (by decide) (by decide) kk) ?_
          refine own_retN X12 hx hlk (t := .boolean) hret (by simp) (z' := (1 : Int32)) rfl (hb hby at_112) (by decide) (by decide) ?_
          show own_Q0 Z f1 mb bk yb sc w9 h0 n0 _ T12.heap _
          rw [e12]
          exact ⟨rfl, N12⟩
    · have ihc17_2 : (f1 &&& (1 : Int32)).toInt ≠ 0 := own_ine hc17_2
      refine own_up (S' := Tj1.setTop (mkF m 20 #[.val (.int f1), .val (.int mb), .val (.int bk), .val (.int yb), .val (.int sc), .val (.int mv), .unset, .unset, .unset, .unset, .unset] [])) (fun t kk => XS.ifNo Xj1.here hx rfl (hb hby at_17) rfl (XT.i0_eq_f hc17_2) kk) ?_
      refine own_up (S' := Tj1.setTop (mkF m 21 #[.val (.int f1), .val (.int mb), .val (.int bk), .val (.int yb), .val (.int sc), .val (.int mv), .unset, .unset, .unset, .unset, .unset] [(.int (1 : Int32))])) (fun t kk => XT.iconstV Xj1.here hx rfl (1 : Int32) (hb hby at_20) rfl kk) ?_
      refine own_up (S' := Tj1.setTop (mkF m 25 #[.val (.int f1), .val (.int mb), .val (.int bk), .val (.int yb), .val (.int sc), .val (.int mv), .unset, .unset, .unset, .unset, .unset] [(.int (1 : Int32))])) (fun t kk => XS.goto Xj1.here hx rfl (pc0 := 21) (pc' := 25) rfl (hb hby at_21) (by decide) (by decide) kk) ?_
      refine own_up (S' := Tj1.setTop (mkF m 27 #[.val (.int f1), .val (.int mb), .val (.int bk), .val (.int yb), .val (.int sc), .val (.int mv), .val (.int (1 : Int32)), .unset, .unset, .unset, .unset] [])) (fun t kk => XS.istore Xj1.here hx rfl (hb hby at_25) rfl (l' := #[.val (.int f1), .val (.int mb), .val (.int bk), .val (.int yb), .val (.int sc), .val (.int mv), .val (.int (1 : Int32)), .unset, .unset, .unset, .unset]) rfl kk) ?_
      refine own_up (S' := Tj1.setTop (mkF m 29 #[.val (.int f1), .val (.int mb), .val (.int bk), .val (.int yb), .val (.int sc), .val (.int mv), .val (.int (1 : Int32)), .unset, .unset, .unset, .unset] [(.int sc)])) (fun t kk => XS.iload Xj1.here hx rfl (hb hby at_27) rfl kk) ?_
      refine own_up (S' := Tj1.setTop (mkF m 32 #[.val (.int f1), .val (.int mb), .val (.int bk), .val (.int yb), .val (.int sc), .val (.int mv), .val (.int (1 : Int32)), .unset, .unset, .unset, .unset] [(.int (255 : Int32)), (.int sc)])) (fun t kk => XT.sipushV Xj1.here hx rfl (255 : Int32) (hb hby at_29) rfl kk) ?_
      refine own_up (S' := Tj1.setTop (mkF m 33 #[.val (.int f1), .val (.int mb), .val (.int bk), .val (.int yb), .val (.int sc), .val (.int mv), .val (.int (1 : Int32)), .unset, .unset, .unset, .unset] [(.int (sc &&& (255 : Int32)))])) (fun t kk => XS.iand Xj1.here hx rfl (hb hby at_32) rfl kk) ?_
      refine own_up (S' := Tj1.setTop (mkF m 34 #[.val (.int f1), .val (.int mb), .val (.int bk), .val (.int yb), .val (.int sc), .val (.int mv), .val (.int (1 : Int32)), .unset, .unset, .unset, .unset] [(.int (sc &&& (255 : Int32)).toUInt32.toUInt16.toUInt32.toInt32)])) (fun t kk => XT.i2c Xj1.here hx rfl (hb hby at_33) rfl kk) ?_
      refine own_callS Xj1 hx hZ hown (hw _ (List.mem_of_getElem? (i := 1) rfl)) (hw _ (List.mem_of_getElem? (i := 2) rfl)) (hw _ (List.mem_of_getElem? (i := 3) rfl)) (hw _ (List.mem_of_getElem? (i := 4) rfl)) (by decide) ej1 (rm4 l Z a0 hw [] (sc &&& (255 : Int32)).toUInt32.toUInt16.toUInt32.toInt32 w9 h0 n0 Z0 Sc (hw9) (own_ch sc)) 0 [(.int (sc &&& (255 : Int32)).toUInt32.toUInt16.toUInt32.toInt32)] [] (hb hby at_34) (lenOf own_pd5 rfl) (by decide) (by decide) (by decide) (by decide) rfl (by rw [hml]; rfl) rfl (by show 2 * 0 + _ ≤ _; exact Nat.le_of_eq rfl) rfl ?_
      intro T19 L19 r19 X19 q19
      obtain ⟨r_19, rfl, hr_19, M19, K19⟩ := q19
      have N19 := Fr.app Nj1 M19
      have Zn20 := Nat.le_trans Z0 K19.1
      show own_Ends p e below s (own_Q0 Z f1 mb bk yb sc w9 h0 n0) room_1.cells room_1.slots (T19.setTop (mkF m 37 #[.val (.int f1), .val (.int mb), .val (.int bk), .val (.int yb), .val (.int sc), .val (.int mv), .val (.int (1 : Int32)), .unset, .unset, .unset, .unset] [(.ref r_19)]))
      refine own_up (S' := T19.setTop (mkF m 39 #[.val (.int f1), .val (.int mb), .val (.int bk), .val (.int yb), .val (.int sc), .val (.int mv), .val (.int (1 : Int32)), .val (.ref r_19), .unset, .unset, .unset] [])) (fun t kk => XS.astore X19.here hx rfl (hb hby at_37) rfl rfl (l' := #[.val (.int f1), .val (.int mb), .val (.int bk), .val (.int yb), .val (.int sc), .val (.int mv), .val (.int (1 : Int32)), .val (.ref r_19), .unset, .unset, .unset]) rfl kk) ?_
      refine own_new X19 hx hZ hown (hw _ (List.mem_of_getElem? (i := 27) rfl)) (hw _ (List.mem_of_getElem? (i := 28) rfl)) (hw _ (List.mem_of_getElem? (i := 29) rfl)) rfl rfl (hb hby at_39) (by decide) (by decide) ?_
      intro T22 h22 ob hb22 X22 e22 E22 A22 D22
      have g_ob : n0 ≤ ob := Nat.le_trans Zn20 (Nat.le_of_eq hb22.symm)
      have Zn23 := Nat.le_trans Zn20 E22.1
      have Fsection_ob : Fld Z h22 ob "com/example/vestwright/vestwright/vesting/Reemployment" "section" "Ljava/lang/String;" .null := D22 (Or.inr (hw _ (List.mem_of_getElem? (i := 40) rfl))) (ty := (.object "java/lang/String")) (by decide)
      have FminimumBreaks_ob : Fld Z h22 ob "com/example/vestwright/vestwright/vesting/Reemployment" "minimumBreaks" "I" (.int (0 : Int32)) := D22 (Or.inr (hw _ (List.mem_of_getElem? (i := 42) rfl))) (ty := .int) (by decide)
      show own_Ends p e below s (own_Q0 Z f1 mb bk yb sc w9 h0 n0) room_1.cells room_1.slots (T22.setTop (mkF m 42 #[.val (.int f1), .val (.int mb), .val (.int bk), .val (.int yb), .val (.int sc), .val (.int mv), .val (.int (1 : Int32)), .val (.ref r_19), .unset, .unset, .unset] [(.ref ob)]))
      refine own_up (S' := T22.setTop (mkF m 43 #[.val (.int f1), .val (.int mb), .val (.int bk), .val (.int yb), .val (.int sc), .val (.int mv), .val (.int (1 : Int32)), .val (.ref r_19), .unset, .unset, .unset] [(.ref ob), (.ref ob)])) (fun t kk => XS.dup X22.here hx rfl (hb hby at_42) rfl rfl kk) ?_
      refine own_up (S' := T22.setTop (mkF m 45 #[.val (.int f1), .val (.int mb), .val (.int bk), .val (.int yb), .val (.int sc), .val (.int mv), .val (.int (1 : Int32)), .val (.ref r_19), .unset, .unset, .unset] [(.ref r_19), (.ref ob), (.ref ob)])) (fun t kk => XS.aload X22.here hx rfl (hb hby at_43) rfl rfl kk) ?_
      refine own_up (S' := T22.setTop (mkF m 47 #[.val (.int f1), .val (.int mb), .val (.int bk), .val (.int yb), .val (.int sc), .val (.int mv), .val (.int (1 : Int32)), .val (.ref r_19), .unset, .unset, .unset] [(.int mv), (.ref r_19), (.ref ob), (.ref ob)])) (fun t kk => XS.iload X22.here hx rfl (hb hby at_45) rfl kk) ?_
      refine own_callI X22 hx hZ rfl hown (hw _ (List.mem_of_getElem? (i := 30) rfl)) (hw _ (List.mem_of_getElem? (i := 31) rfl)) (hw _ (List.mem_of_getElem? (i := 29) rfl)) (hw _ (List.mem_of_getElem? (i := 32) rfl)) (by decide) e22 (rm7 l Z a0 hw [] ob r_19 mv h22 n0 Zn23 Fsection_ob FminimumBreaks_ob A22 g_ob (own_ilt_of (x := 0) hmv)) 1 ob [(.ref r_19), (.int mv)] [(.ref ob)] (hb hby at_47) (lenOf own_pd6 rfl) (by decide) (by decide) (by decide) (by decide) rfl (by rw [hml]; rfl) rfl (by show 2 * 0 + _ ≤ _; exact Nat.le_of_eq rfl) rfl ?_
      intro T25 L25 r25 X25 q25
      obtain ⟨rfl, M25, K25, G25a_25⟩ := q25
      have N25 := Fr.app N19 M25
      have Zn26 := Nat.le_trans Zn23 K25.1
      have A22_27 := A22.keep K25
      show own_Ends p e below s (own_Q0 Z f1 mb bk yb sc w9 h0 n0) room_1.cells room_1.slots (T25.setTop (mkF m 50 #[.val (.int f1), .val (.int mb), .val (.int bk), .val (.int yb), .val (.int sc), .val (.int mv), .val (.int (1 : Int32)), .val (.ref r_19), .unset, .unset, .unset] [(.ref ob)]))
      refine own_up (S' := T25.setTop (mkF m 52 #[.val (.int f1), .val (.int mb), .val (.int bk), .val (.int yb), .val (.int sc), .val (.int mv), .val (.int (1 : Int32)), .val (.ref r_19), .val (.ref ob), .unset, .unset] [])) (fun t kk => XS.astore X25.here hx rfl (hb hby at_50) rfl rfl (l' := #[.val (.int f1), .val (.int mb), .val (.int bk), .val (.int yb), .val (.int sc), .val (.int mv), .val (.int (1 : Int32)), .val (.ref r_19), .val (.ref ob), .unset, .unset]) rfl kk) ?_
      refine own_up (S' := T25.setTop (mkF m 54 #[.val (.int f1), .val (.int mb), .val (.int bk), .val (.int yb), .val (.int sc), .val (.int mv), .val (.int (1 : Int32)), .val (.ref r_19), .val (.ref ob), .unset, .unset] [(.ref ob)])) (fun t kk => XS.aload X25.here hx rfl (hb hby at_52) rfl rfl kk) ?_
      refine own_up (S' := T25.setTop (mkF m 56 #[.val (.int f1), .val (.int mb), .val (.int bk), .val (.int yb), .val (.int sc), .val (.int mv), .val (.int (1 : Int32)), .val (.ref r_19), .val (.ref ob), .unset, .unset] [(.int (1 : Int32)), (.ref ob)])) (fun t kk => XS.iload X25.here hx rfl (hb hby at_54) rfl kk) ?_
      refine own_up (S' := T25.setTop (mkF m 57 #[.val (.int f1), .val (.int mb), .val (.int bk), .val (.int yb), .val (.int sc), .val (.int mv), .val (.int (1 : Int32)), .val (.ref r_19), .val (.ref ob), .unset, .unset] [(.int bk), (.int (1 : Int32)), (.ref ob)])) (fun t kk => XS.iloadN X25.here hx rfl (hb hby at_56) rfl kk) ?_
      refine own_up (S' := T25.setTop (mkF m 58 #[.val (.int f1), .val (.int mb), .val (.int bk), .val (.int yb), .val (.int sc), .val (.int mv), .val (.int (1 : Int32)), .val (.ref r_19), .val (.ref ob), .unset, .unset] [(.int yb), (.int bk), (.int (1 : Int32)), (.ref ob)])) (fun t kk => XS.iloadN X25.here hx rfl (hb hby at_57) rfl kk) ?_
      refine own_callV X25 hx hZ hown (hw _ (List.mem_of_getElem? (i := 43) rfl)) (hw _ (List.mem_of_getElem? (i := 44) rfl)) (hw _ (List.mem_of_getElem? (i := 46) rfl)) (hw _ (List.mem_of_getElem? (i := 45) rfl)) (hw _ (List.mem_of_getElem? (i := 29) rfl)) (hw _ (List.mem_of_getElem? (i := 47) rfl)) (by decide) rfl (rm8 l Z a0 hw [] ob (1 : Int32) bk yb mv T25.heap n0 Zn26 G25a_25) 0 A22_27 [(.int (1 : Int32)), (.int bk), (.int yb)] [] (hb hby at_58) (lenOf own_pd7 rfl) (by decide) (by decide) (by decide) (by decide) rfl (by rw [hml]; rfl) rfl (by show 2 * 0 + _ ≤ _; exact Nat.le_of_eq rfl) rfl ?_
      intro T28 L28 r28 X28 q28
      obtain ⟨rfl, M28, e28⟩ := q28
      have N28 := Fr.app N25 M28
      show own_Ends p e below s (own_Q0 Z f1 mb bk yb sc w9 h0 n0) room_1.cells room_1.slots (T28.setTop (mkF m 61 #[.val (.int f1), .val (.int mb), .val (.int bk), .val (.int yb), .val (.int sc), .val (.int mv), .val (.int (1 : Int32)), .val (.ref r_19), .val (.ref ob), .unset, .unset] [(.int (own_cs (1 : Int32) bk yb mv))]))
      obtain ⟨got, h_got⟩ : ∃ z : Int32, z = (own_cs (1 : Int32) bk yb mv) := ⟨_, rfl⟩
      rw [← h_got]
      refine own_up (S' := T28.setTop (mkF m 63 #[.val (.int f1), .val (.int mb), .val (.int bk), .val (.int yb), .val (.int sc), .val (.int mv), .val (.int (1 : Int32)), .val (.ref r_19), .val (.ref ob), .val (.int got), .unset] [])) (fun t kk => XS.istore X28.here hx rfl (hb hby at_61) rfl (l' := #[.val (.int f1), .val (.int mb), .val (.int bk), .val (.int yb), .val (.int sc), .val (.int mv), .val (.int (1 : Int32)), .val (.ref r_19), .val (.ref ob), .val (.int got), .unset]) rfl kk) ?_
      refine own_up (S' := T28.setTop (mkF m 65 #[.val (.int f1), .val (.int mb), .val (.int bk), .val (.int yb), .val (.int sc), .val (.int mv), .val (.int (1 : Int32)), .val (.ref r_19), .val (.ref ob), .val (.int got), .unset] [(.int (1 : Int32))])) (fun t kk => XS.iload X28.here hx rfl (hb hby at_63) rfl kk) ?_
      have hc65_29 : ¬ ((1 : Int32) = 0) := by decide
      refine own_up (S' := T28.setTop (mkF m 68 #[.val (.int f1), .val (.int mb), .val (.int bk), .val (.int yb), .val (.int sc), .val (.int mv), .val (.int (1 : Int32)), .val (.ref r_19), .val (.ref ob), .val (.int got), .unset] [])) (fun t kk => XS.ifNo X28.here hx rfl (hb hby at_65) rfl (XT.i0_eq_f hc65_29) kk) ?_
      refine own_up (S' := T28.setTop (mkF m 69 #[.val (.int f1), .val (.int mb), .val (.int bk), .val (.int yb), .val (.int sc), .val (.int mv), .val (.int (1 : Int32)), .val (.ref r_19), .val (.ref ob), .val (.int got), .unset] [(.int (1 : Int32))])) (fun t kk => XT.iconstV X28.here hx rfl (1 : Int32) (hb hby at_68) rfl kk) ?_
      refine own_up (S' := T28.setTop (mkF m 71 #[.val (.int f1), .val (.int mb), .val (.int bk), .val (.int yb), .val (.int sc), .val (.int mv), .val (.int (1 : Int32)), .val (.ref r_19), .val (.ref ob), .val (.int got), .val (.int (1 : Int32))] [])) (fun t kk => XS.istore X28.here hx rfl (hb hby at_69) rfl (l' := #[.val (.int f1), .val (.int mb), .val (.int bk), .val (.int yb), .val (.int sc), .val (.int mv), .val (.int (1 : Int32)), .val (.ref r_19), .val (.ref ob), .val (.int got), .val (.int (1 : Int32))]) rfl kk) ?_
      refine own_up (S' := T28.setTop (mkF m 100 #[.val (.int f1), .val (.int mb), .val (.int bk), .val (.int yb), .val (.int sc), .val (.int mv), .val (.int (1 : Int32)), .val (.ref r_19), .val (.ref ob), .val (.int got), .val (.int (1 : Int32))] [])) (fun t kk => XS.goto X28.here hx rfl (pc0 := 71) (pc' := 100) rfl (hb hby at_71) (by decide) (by decide) kk) ?_
      refine own_up (S' := T28.setTop (mkF m 102 #[.val (.int f1), .val (.int mb), .val (.int bk), .val (.int yb), .val (.int sc), .val (.int mv), .val (.int (1 : Int32)), .val (.ref r_19), .val (.ref ob), .val (.int got), .val (.int (1 : Int32))] [(.int got)])) (fun t kk => XS.iload X28.here hx rfl (hb hby at_100) rfl kk) ?_
      refine own_up (S' := T28.setTop (mkF m 104 #[.val (.int f1), .val (.int mb), .val (.int bk), .val (.int yb), .val (.int sc), .val (.int mv), .val (.int (1 : Int32)), .val (.ref r_19), .val (.ref ob), .val (.int got), .val (.int (1 : Int32))] [(.int (1 : Int32)), (.int got)])) (fun t kk => XS.iload X28.here hx rfl (hb hby at_102) rfl kk) ?_
      have hc104_30 : got = (1 : Int32) := by rw [h_got]; exact (own_cs_1 (by omega)).symm
      have ihc104_30 : got.toInt = 1 := own_ieq hc104_30
      refine own_up (S' := T28.setTop (mkF m 107 #[.val (.int f1), .val (.int mb), .val (.int bk), .val (.int yb), .val (.int sc), .val (.int mv), .val (.int (1 : Int32)), .val (.ref r_19), .val (.ref ob), .val (.int got), .val (.int (1 : Int32))] [])) (fun t kk => XS.icmpNo X28.here hx rfl (hb hby at_104) rfl (XT.ii_ne_f hc104_30) kk) ?_
      refine own_up (S' := T28.setTop (mkF m 108 #[.val (.int f1), .val (.int mb), .val (.int bk), .val (.int yb), .val (.int sc), .val (.int mv), .val (.int (1 : Int32)), .val (.ref r_19), .val (.ref ob), .val (.int got), .val (.int (1 : Int32))] [(.int (1 : Int32))])) (fun t kk => XT.iconstV X28.here hx rfl (1 : Int32) (hb hby at_107) rfl kk) ?_
      refine own_up (S' := T28.setTop (mkF m 112 #[.val (.int f1), .val (.int mb), .val (.int bk), .val (.int yb), .val (.int sc), .val (.int mv), .val (.int (1 : Int32)), .val (.ref r_19), .val (.ref ob), .val (.int got), .val (.int (1 : Int32))] [(.int (1 : Int32))])) (fun t kk => XS.goto X28.here hx rfl (pc0 := 108) (pc' := 112) rfl (hb hby at_108) (by decide) (by decide) kk) ?_
      refine own_retN X28 hx hlk (t := .boolean) hret (by simp) (z' := (1 : Int32)) rfl (hb hby at_112) (by decide) (by decide) ?_
      show own_Q0 Z f1 mb bk yb sc w9 h0 n0 _ T28.heap _
      rw [e28]
      exact ⟨rfl, N28⟩
  refine own_up (S' := T0.setTop (mkF m 8 #[.val (.int f1), .val (.int mb), .val (.int bk), .val (.int yb), .val (.int sc), .val (.int mm), .unset, .unset, .unset, .unset, .unset] [(.int mm)])) (fun t kk => XS.iload X0.here hx rfl (hb hby at_6) rfl kk) ?_
  by_cases hc8_31 : mm = 0
  · have ihc8_31 : mm.toInt = 0 := own_ieq hc8_31
    refine own_up (S' := T0.setTop (mkF m 11 #[.val (.int f1), .val (.int mb), .val (.int bk), .val (.int yb), .val (.int sc), .val (.int mm), .unset, .unset, .unset, .unset, .unset] [])) (fun t kk => XS.ifNo X0.here hx rfl (hb hby at_8) rfl (XT.i0_ne_f hc8_31) kk) ?_
    refine own_up (S' := T0.setTop (mkF m 12 #[.val (.int f1), .val (.int mb), .val (.int bk), .val (.int yb), .val (.int sc), .val (.int mm), .unset, .unset, .unset, .unset, .unset] [(.int (1 : Int32))])) (fun t kk => XT.iconstV X0.here hx rfl (1 : Int32) (hb hby at_11) rfl kk) ?_
    refine own_up (S' := T0.setTop (mkF m 14 #[.val (.int f1), .val (.int mb), .val (.int bk), .val (.int yb), .val (.int sc), .val (.int (1 : Int32)), .unset, .unset, .unset, .unset, .unset] [])) (fun t kk => XS.istore X0.here hx rfl (hb hby at_12) rfl (l' := #[.val (.int f1), .val (.int mb), .val (.int bk), .val (.int yb), .val (.int sc), .val (.int (1 : Int32)), .unset, .unset, .unset, .unset, .unset]) rfl kk) ?_
    exact J14_1 (1 : Int32) _ N0 T0 X0 e0 (by decide)
  · have ihc8_31 : mm.toInt ≠ 0 := own_ine hc8_31
    refine own_up (S' := T0.setTop (mkF m 14 #[.val (.int f1), .val (.int mb), .val (.int bk), .val (.int yb), .val (.int sc), .val (.int mm), .unset, .unset, .unset, .unset, .unset] [])) (fun t kk => XS.ifYes X0.here hx rfl (pc0 := 8) (pc' := 14) rfl (hb hby at_8) rfl (XT.i0_ne_t hc8_31) (by decide) (by decide) kk) ?_
    exact J14_1 mm _ N0 T0 X0 e0 (by omega)
set_option maxRecDepth 65536 in
set_option maxHeartbeats 40000000 in
theorem comes_1 {Post : Tables → Env → Array Value → State → Outcome → State → Prop} (hpost : ∀ tb e args s v u, (limb_1_1.after args s (.returned v) u = true ∧ limb_1_2.after args s (.returned v) u = true ∧ True) → FrameEnd s (.returned v) u (Jvm.fieldLocs frame_1_writes args s ++ Jvm.arrayLocs frame_1_arrays args s ++ Jvm.staticLocs frame_1_statics s) 16 128 → Post tb e args s (.returned v) u) :
    ArmFor flags0 classFile x code maxLocals ret World_1 tables_1 room_1 Calls_1 rest_1 Pre_1 Post := by
  intro l hfl _ _ p e ha hc hk s m args below hf hA hF happ hP
  obtain ⟨hcalls, hrest, hpre⟩ := hP
  obtain ⟨-, -, -, hnamed, -, -, -, hat⟩ := (Spec.applies_iff hf).mp happ
  obtain ⟨hg, hn⟩ := and_e (Cond.before_iff.mp (show (Jvm.Cond.and given_1 narrow_1).before args s = true from hpre))
  obtain ⟨g0, k0⟩ := and_e hg
  obtain ⟨g1, k1⟩ := and_e k0
  obtain ⟨g2, k2⟩ := and_e k1
  obtain ⟨g3, k3⟩ := and_e k2
  obtain ⟨g4, k4⟩ := and_e k3
  obtain ⟨w0, w1, w2, w3, w4, rfl⟩ : ∃ w0 w1 w2 w3 w4 : Value, args = #[w0, w1, w2, w3, w4] := by
    have hs : args.size = 5 := by simpa [Cond.value, given_1] using g0
    obtain ⟨L⟩ := args
    match L, hs with
    | [w0, w1, w2, w3, w4], _ => exact ⟨w0, w1, w2, w3, w4, rfl⟩
  have hw := fun d (hd : d ∈ tables_1) => atoms_spec (ws := Jvm.Cond.code x code maxLocals ret :: tables_1) hat d (List.mem_cons_of_mem _ hd)
  obtain ⟨i0, ei0⟩ := is_v g1
  obtain rfl : w0 = (.int i0) := Option.some.inj ei0
  obtain ⟨i1, ei1⟩ := is_v g2
  obtain rfl : w1 = (.int i1) := Option.some.inj ei1
  obtain ⟨i2, ei2⟩ := is_v g3
  obtain rfl : w2 = (.int i2) := Option.some.inj ei2
  obtain ⟨i3, ei3⟩ := is_v g4
  obtain rfl : w3 = (.int i3) := Option.some.inj ei3
  obtain ⟨i4, ei4⟩ := is_v k4
  obtain rfl : w4 = (.int i4) := Option.some.inj ei4
  obtain ⟨hsets, hown0⟩ := atoms_of _ (rest_1_c_eq ▸ (show rest_1_c.before _ s = true from hrest))
  have n5 := not_v (Cond.before_iff.mp (hsets _ (List.mem_of_getElem? (i := 2) rfl)))
  obtain ⟨w9, e9⟩ := is_v (Cond.before_iff.mp (hsets _ (List.mem_of_getElem? (i := 1) rfl)))
  have S9 : Sta s s.heap "java/lang/String" "COMPACT_STRINGS" "Z" (.int w9) := Sta.start e9 (Or.inl (hsets _ (List.mem_of_getElem? (i := 0) rfl)))
  have c9 : ¬ (w9 = (0 : Int32)) := gotF (Cond.eq_ints e9 (Term.int_eval (0))) n5
  obtain ⟨n, o, h1, h2, h3, _, L, rfl, ⟨rfl, N⟩, hq⟩ := rm0 l s _ hw tables_1 i0 i1 i2 i3 i4 w9 s.heap s.heap.size (Nat.le_refl _) S9 c9 p e ha hc hk s m _ below hf ((Spec.applies_iff_loose hf).mp happ).1 ⟨rfl, State.Warmed39.refl s, rfl⟩ trivial
  refine ⟨n, _, h1, h2, h3, hpost _ _ _ _ _ _ ⟨Cond.after_iff.mpr rfl, Cond.after_iff.mpr (eq_i res_at (Term.int_eval (1)) rfl), trivial⟩ ⟨hq.1, hq.2.1, (hq.2.2.sift fun y hy => Or.inr (N y hy)).mono (by decide) (by decide)⟩⟩
theorem main_1_1 : Claimed_1_1 := comes_1 fun _ _ _ _ _ _ h hF => ⟨h.1, hF⟩
theorem main_1_2 : Claimed_1_2 := comes_1 fun _ _ _ _ _ _ h hF => ⟨h.2.1, hF⟩
end Jvm.Pilot.@@N@@
namespace Jvm.Pilot.@@N@@
open Jvm Jvm.ClassFile Sem Op Lib Jvm.Free Jvm.Stand Jvm.Pilot.@@N@@.Jvm.D
/-! MADE BY PROGRAM (witnessworld.py) out of the Statement's table words and the real class files: 19 classes; the members and pool entries that the words name. The judged class is class 1, her method 1. -/
namespace start1
open Jvm.ClassFile
def u (s : String) : CpInfo := .utf8 (stringToUtf16 s)
/-- a pool by its gaps: so many unusable entries, then the entry; so many at the end -/
def gap : Nat → List CpInfo → List CpInfo
  | 0, r => r
  | n + 1, r => .unusable :: gap n r
def poolList (es : List (Nat × CpInfo)) (last : Nat) : List CpInfo := es.foldr (fun e r => gap e.1 (e.2 :: r)) (gap last [])
def pool (es : List (Nat × CpInfo)) (last : Nat) : Array CpInfo := ⟨poolList es last⟩
def fileOf (pool : Array CpInfo) (this : Nat) (attrs : Array Attribute := #[]) (ms : Array MethodInfo := #[]) (fl : Nat := 33) (sup : Nat := 0) (ifs : Array Nat := #[]) (fds : Array FieldInfo := #[]) : ClassFile where
  minorVersion := 0
  majorVersion := 65
  constantPool := pool
  accessFlags := fl
  thisClass := this
  superClass := sup
  interfaces := ifs
  fields := fds
  methods := ms
  attributes := attrs
def plain (name : String) (sup : Option ClassId) : Class where
  name := name
  kind := .ordinary
  loader := none
  accessFlags := 33
  super := sup
  interfaces := #[]
  cf := none
  fields := #[]
  methods := #[]
  instanceTypes := #[]
  staticTypes := #[]
  resolved := #[]
  callSites := []
  init := .initialized
  statics := none
  mirror := none

def pool0 : Array CpInfo := pool [(5, u "<init>"), (0, u "()V"), (1, .class_ 10), (1, u "java/lang/Object")] 113

def k0c0 : Code := { maxStack := 0, maxLocals := 1, code := object_method_1_code, exceptionTable := #[], attributes := #[] }
def k0m0 : Method := { name := "<init>", desc := "()V", sig := { parameters := [], returnType := none }, accessFlags := 1, code := some k0c0 }
/-- java/lang/Object -/
def k0 : Class := { plain "java/lang/Object" none with
  accessFlags := 33
  interfaces := #[]
  cf := some (fileOf pool0 8 #[] #[{ accessFlags := 1, nameIndex := 5, descriptorIndex := 6, attributes := #[] }] 33 0 #[] #[])
  fields := #[]
  methods := #[k0m0]
  instanceTypes := #[]
  staticTypes := #[]
  resolved := Array.replicate 124 none
  statics := none }

def pool1 : Array CpInfo := pool [(2, .class_ 4), (1, u "java/lang/Object"), (0, u "<init>"), (0, u "()V"), (0, .integer 2147483647), (0, .methodref 9 10), (0, .class_ 11), (0, .nameAndType 12 13), (0, u "java/lang/String"), (0, u "valueOf"), (0, u "(C)Ljava/lang/String;"), (0, .class_ 15), (0, u "com/example/vestwright/vestwright/vesting/Reemployment"), (0, .methodref 14 17), (0, .nameAndType 5 18), (0, u "(Ljava/lang/String;I)V"), (0, .methodref 14 20), (0, .nameAndType 21 22), (0, u "countsServiceBefore"), (0, u "(ZII)Z"), (0, .class_ 24), (0, u "com/example/vestwright/vestwright/vesting/ReemploymentCountsServiceBeforePinLaw"), (2, u "law"), (0, u "(IIIII)Z")] 3

def k1m0 : Method := { name := "<init>", desc := "()V", sig := { parameters := [], returnType := none }, accessFlags := 1, code := none }
def k1c1 : Code := { maxStack := 4, maxLocals := 11, code := code, exceptionTable := #[], attributes := #[] }
def k1m1 : Method := { name := "law", desc := "(IIIII)Z", sig := { parameters := [.int, .int, .int, .int, .int], returnType := some .boolean }, accessFlags := 9, code := some k1c1 }
/-- com/example/vestwright/vestwright/vesting/ReemploymentCountsServiceBeforePinLaw -/
def k1 : Class := { plain "com/example/vestwright/vestwright/vesting/ReemploymentCountsServiceBeforePinLaw" (some 0) with
  accessFlags := 49
  interfaces := #[]
  cf := some (fileOf pool1 23 #[] #[{ accessFlags := 1, nameIndex := 5, descriptorIndex := 6, attributes := #[] }, { accessFlags := 9, nameIndex := 27, descriptorIndex := 28, attributes := #[] }] 49 2 #[] #[])
  fields := #[]
  methods := #[k1m0, k1m1]
  instanceTypes := #[]
  staticTypes := #[]
  resolved := Array.replicate 32 none
  statics := none }

def pool2 : Array CpInfo := pool [(1, .class_ 2), (0, u "java/io/Serializable"), (0, .class_ 4), (0, u "java/lang/Object")] 2

/-- java/io/Serializable -/
def k2 : Class := { plain "java/io/Serializable" (some 0) with
  accessFlags := 1537
  interfaces := #[]
  cf := some (fileOf pool2 1 #[] #[] 1537 3 #[] #[])
  fields := #[]
  methods := #[]
  instanceTypes := #[]
  staticTypes := #[]
  resolved := Array.replicate 7 none
  statics := none }

def pool3 : Array CpInfo := pool [(1, .class_ 2), (0, u "java/lang/Comparable"), (0, .class_ 4), (0, u "java/lang/Object")] 7

/-- java/lang/Comparable -/
def k3 : Class := { plain "java/lang/Comparable" (some 0) with
  accessFlags := 1537
  interfaces := #[]
  cf := some (fileOf pool3 1 #[] #[] 1537 3 #[] #[])
  fields := #[]
  methods := #[]
  instanceTypes := #[]
  staticTypes := #[]
  resolved := Array.replicate 12 none
  statics := none }

def pool4 : Array CpInfo := pool [(2, .class_ 4), (1, u "java/lang/CharSequence"), (42, .class_ 48), (0, u "java/lang/CharSequence$1CodePointIterator"), (10, .class_ 60), (0, u "java/lang/CharSequence$1CharIterator"), (5, .class_ 67), (0, u "java/lang/Object")] 63

/-- java/lang/CharSequence -/
def k4 : Class := { plain "java/lang/CharSequence" (some 0) with
  accessFlags := 1537
  interfaces := #[]
  cf := some (fileOf pool4 2 #[.nestMembers #[47, 59]] #[] 1537 66 #[] #[])
  fields := #[]
  methods := #[]
  instanceTypes := #[]
  staticTypes := #[]
  resolved := Array.replicate 131 none
  statics := none }

def pool5 : Array CpInfo := pool [(1, .class_ 2), (0, u "java/lang/constant/Constable"), (0, .class_ 4), (0, u "java/lang/Object")] 6

/-- java/lang/constant/Constable -/
def k5 : Class := { plain "java/lang/constant/Constable" (some 0) with
  accessFlags := 1537
  interfaces := #[]
  cf := some (fileOf pool5 1 #[] #[] 1537 3 #[] #[])
  fields := #[]
  methods := #[]
  instanceTypes := #[]
  staticTypes := #[]
  resolved := Array.replicate 11 none
  statics := none }

def pool6 : Array CpInfo := pool [(1, .class_ 2), (0, u "java/lang/constant/ConstantDesc"), (0, .class_ 4), (0, u "java/lang/Object")] 32

/-- java/lang/constant/ConstantDesc -/
def k6 : Class := { plain "java/lang/constant/ConstantDesc" (some 0) with
  accessFlags := 1537
  interfaces := #[]
  cf := some (fileOf pool6 1 #[] #[] 1537 3 #[] #[])
  fields := #[]
  methods := #[]
  instanceTypes := #[]
  staticTypes := #[]
  resolved := Array.replicate 37 none
  statics := none }

def pool7 : Array CpInfo := pool [(1, .methodref 2 3), (0, .class_ 4), (0, .nameAndType 5 6), (0, u "java/lang/Object"), (0, u "<init>"), (0, u "()V"), (2, .fieldref 10 11), (0, .class_ 12), (0, .nameAndType 13 14), (0, u "java/lang/String"), (0, u "value"), (0, u "[B"), (0, .fieldref 10 16), (0, .nameAndType 17 18), (0, u "coder"), (0, u "B"), (2, u "hash"), (0, u "I"), (2, u "hashIsZero"), (0, u "Z"), (11, .fieldref 10 39), (0, .nameAndType 40 26), (0, u "COMPACT_STRINGS"), (12, u "toBytes"), (53, .class_ 109), (1, u "java/lang/StringLatin1"), (99, .methodref 10 210), (0, .nameAndType 5 211), (0, u "([BB)V"), (157, u "(C)Z"), (205, .class_ 576), (0, u "java/lang/CharSequence"), (22, u "CASE_INSENSITIVE_ORDER"), (0, u "Ljava/util/Comparator;"), (181, u "valueOf"), (0, u "(C)Ljava/lang/String;"), (231, .methodref 107 1016), (0, .nameAndType 1017 369), (0, u "canEncode"), (0, .methodref 107 1019), (0, .nameAndType 53 1020), (0, u "(C)[B"), (80, u "serialPersistentFields"), (0, u "[Ljava/io/ObjectStreamField;"), (0, .class_ 1104), (0, u "java/lang/String$CaseInsensitiveComparator"), (1, .class_ 1107), (0, u "java/io/Serializable"), (0, .class_ 1109), (0, u "java/lang/Comparable"), (0, .class_ 1111), (0, u "java/lang/constant/Constable"), (0, .class_ 1113), (0, u "java/lang/constant/ConstantDesc"), (2, u "serialVersionUID"), (0, u "J"), (3, u "REPL"), (0, u "C"), (2, u "LATIN1"), (1, u "UTF16")] 323

def k7m0 : Method := { name := "<init>", desc := "()V", sig := { parameters := [], returnType := none }, accessFlags := 1, code := none }
def k7c1 : Code := { maxStack := 4, maxLocals := 1, code := jdk_42_method_139_code, exceptionTable := #[], attributes := #[] }
def k7m1 : Method := { name := "valueOf", desc := "(C)Ljava/lang/String;", sig := { parameters := [.char], returnType := some (.object "java/lang/String") }, accessFlags := 9, code := some k7c1 }
def k7c2 : Code := { maxStack := 2, maxLocals := 3, code := jdk_42_method_151_code, exceptionTable := #[], attributes := #[] }
def k7m2 : Method := { name := "<init>", desc := "([BB)V", sig := { parameters := [(.array .byte), .byte], returnType := none }, accessFlags := 0, code := some k7c2 }
/-- java/lang/String -/
def k7 : Class := { plain "java/lang/String" (some 0) with
  accessFlags := 49
  interfaces := #[2, 3, 4, 5, 6]
  cf := some (fileOf pool7 10 #[.nestMembers #[1103]] #[{ accessFlags := 1, nameIndex := 5, descriptorIndex := 6, attributes := #[] }, { accessFlags := 9, nameIndex := 782, descriptorIndex := 783, attributes := #[] }, { accessFlags := 0, nameIndex := 5, descriptorIndex := 211, attributes := #[] }] 49 2 #[1106, 1108, 575, 1110, 1112] #[{ accessFlags := 18, nameIndex := 13, descriptorIndex := 14, attributes := #[] }, { accessFlags := 18, nameIndex := 17, descriptorIndex := 18, attributes := #[] }, { accessFlags := 2, nameIndex := 21, descriptorIndex := 22, attributes := #[] }, { accessFlags := 2, nameIndex := 25, descriptorIndex := 26, attributes := #[] }, { accessFlags := 26, nameIndex := 1116, descriptorIndex := 1117, attributes := #[] }, { accessFlags := 24, nameIndex := 40, descriptorIndex := 26, attributes := #[] }, { accessFlags := 26, nameIndex := 1101, descriptorIndex := 1102, attributes := #[] }, { accessFlags := 26, nameIndex := 1121, descriptorIndex := 1122, attributes := #[] }, { accessFlags := 25, nameIndex := 599, descriptorIndex := 600, attributes := #[] }, { accessFlags := 24, nameIndex := 1125, descriptorIndex := 18, attributes := #[] }, { accessFlags := 24, nameIndex := 1127, descriptorIndex := 18, attributes := #[] }])
  fields := #[{ name := "value", type := (.array .byte), accessFlags := 18, slot := 0, constantValue := 0 }, { name := "coder", type := .byte, accessFlags := 18, slot := 1, constantValue := 0 }, { name := "hash", type := .int, accessFlags := 2, slot := 2, constantValue := 0 }, { name := "hashIsZero", type := .boolean, accessFlags := 2, slot := 3, constantValue := 0 }, { name := "serialVersionUID", type := .long, accessFlags := 26, slot := 0, constantValue := 0 }, { name := "COMPACT_STRINGS", type := .boolean, accessFlags := 24, slot := 1, constantValue := 0 }, { name := "serialPersistentFields", type := (.array (.object "java/io/ObjectStreamField")), accessFlags := 26, slot := 2, constantValue := 0 }, { name := "REPL", type := .char, accessFlags := 26, slot := 3, constantValue := 0 }, { name := "CASE_INSENSITIVE_ORDER", type := (.object "java/util/Comparator"), accessFlags := 25, slot := 4, constantValue := 0 }, { name := "LATIN1", type := .byte, accessFlags := 24, slot := 5, constantValue := 0 }, { name := "UTF16", type := .byte, accessFlags := 24, slot := 6, constantValue := 0 }]
  methods := #[k7m0, k7m1, k7m2]
  instanceTypes := #[(.array .byte), .byte, .int, .boolean]
  staticTypes := #[.long, .boolean, (.array (.object "java/io/ObjectStreamField")), .char, (.object "java/util/Comparator"), .byte, .byte]
  resolved := Array.replicate 1451 none
  statics := some 0 }

def pool8 : Array CpInfo := pool [(4, .class_ 6), (1, u "java/lang/Object"), (0, u "<init>"), (0, u "()V"), (5, .class_ 16), (1, u "java/lang/StringLatin1"), (73, u "canEncode"), (14, u "(C)Z"), (15, u "$assertionsDisabled"), (0, u "Z"), (98, .class_ 223), (1, u "java/lang/StringLatin1$LinesSpliterator"), (156, u "toBytes"), (1, u "(C)[B"), (7, .class_ 391), (0, u "java/lang/StringLatin1$CharsSpliterator")] 3

def k8m0 : Method := { name := "<init>", desc := "()V", sig := { parameters := [], returnType := none }, accessFlags := 0, code := none }
def k8c1 : Code := { maxStack := 2, maxLocals := 1, code := jdk_43_method_3_code, exceptionTable := #[], attributes := #[] }
def k8m1 : Method := { name := "canEncode", desc := "(C)Z", sig := { parameters := [.char], returnType := some .boolean }, accessFlags := 9, code := some k8c1 }
def k8c2 : Code := { maxStack := 4, maxLocals := 1, code := jdk_43_method_46_code, exceptionTable := #[], attributes := #[] }
def k8m2 : Method := { name := "toBytes", desc := "(C)[B", sig := { parameters := [.char], returnType := some (.array .byte) }, accessFlags := 9, code := some k8c2 }
/-- java/lang/StringLatin1 -/
def k8 : Class := { plain "java/lang/StringLatin1" (some 0) with
  accessFlags := 48
  interfaces := #[]
  cf := some (fileOf pool8 14 #[.nestMembers #[390, 221]] #[{ accessFlags := 0, nameIndex := 7, descriptorIndex := 8, attributes := #[] }, { accessFlags := 9, nameIndex := 90, descriptorIndex := 105, attributes := #[] }, { accessFlags := 9, nameIndex := 380, descriptorIndex := 382, attributes := #[] }] 48 4 #[] #[{ accessFlags := 4120, nameIndex := 121, descriptorIndex := 122, attributes := #[] }])
  fields := #[{ name := "$assertionsDisabled", type := .boolean, accessFlags := 4120, slot := 0, constantValue := 0 }]
  methods := #[k8m0, k8m1, k8m2]
  instanceTypes := #[]
  staticTypes := #[.boolean]
  resolved := Array.replicate 395 none
  statics := none }

def pool9 : Array CpInfo := pool [(1, .methodref 2 3), (0, .class_ 4), (0, .nameAndType 5 6), (0, u "java/lang/Object"), (0, u "<init>"), (0, u "()V"), (0, .class_ 8), (0, u "java/lang/Record")] 13

def k9c0 : Code := { maxStack := 1, maxLocals := 1, code := jdk_30_method_1_code, exceptionTable := #[], attributes := #[] }
def k9m0 : Method := { name := "<init>", desc := "()V", sig := { parameters := [], returnType := none }, accessFlags := 4, code := some k9c0 }
/-- java/lang/Record -/
def k9 : Class := { plain "java/lang/Record" (some 0) with
  accessFlags := 1057
  interfaces := #[]
  cf := some (fileOf pool9 7 #[] #[{ accessFlags := 4, nameIndex := 5, descriptorIndex := 6, attributes := #[] }] 1057 2 #[] #[])
  fields := #[]
  methods := #[k9m0]
  instanceTypes := #[]
  staticTypes := #[]
  resolved := Array.replicate 22 none
  statics := none }

def pool10 : Array CpInfo := pool [(1, .methodref 2 3), (0, .class_ 4), (0, .nameAndType 5 6), (0, u "java/lang/Record"), (0, u "<init>"), (0, u "()V"), (7, .fieldref 15 16), (0, .class_ 17), (0, .nameAndType 18 19), (0, u "com/example/vestwright/vestwright/vesting/Reemployment"), (0, u "section"), (0, u "Ljava/lang/String;"), (0, .fieldref 15 21), (0, .nameAndType 22 23), (0, u "minimumBreaks"), (0, u "I"), (0, .methodref 25 26), (0, .class_ 27), (0, .nameAndType 28 29), (0, u "java/lang/Math"), (0, u "max"), (0, u "(II)I"), (12, u "(Ljava/lang/String;I)V"), (6, u "countsServiceBefore"), (0, u "(ZII)Z")] 24

def k10c0 : Code := { maxStack := 3, maxLocals := 3, code := prog_56_method_1_code, exceptionTable := #[], attributes := #[] }
def k10m0 : Method := { name := "<init>", desc := "(Ljava/lang/String;I)V", sig := { parameters := [(.object "java/lang/String"), .int], returnType := none }, accessFlags := 1, code := some k10c0 }
def k10c1 : Code := { maxStack := 3, maxLocals := 4, code := prog_56_method_2_code, exceptionTable := #[], attributes := #[] }
def k10m1 : Method := { name := "countsServiceBefore", desc := "(ZII)Z", sig := { parameters := [.boolean, .int, .int], returnType := some .boolean }, accessFlags := 1, code := some k10c1 }
/-- com/example/vestwright/vestwright/vesting/Reemployment -/
def k10 : Class := { plain "com/example/vestwright/vestwright/vesting/Reemployment" (some 9) with
  accessFlags := 49
  interfaces := #[]
  cf := some (fileOf pool10 15 #[] #[{ accessFlags := 1, nameIndex := 5, descriptorIndex := 42, attributes := #[] }, { accessFlags := 1, nameIndex := 49, descriptorIndex := 50, attributes := #[] }] 49 2 #[] #[{ accessFlags := 18, nameIndex := 18, descriptorIndex := 19, attributes := #[] }, { accessFlags := 18, nameIndex := 22, descriptorIndex := 23, attributes := #[] }])
  fields := #[{ name := "section", type := (.object "java/lang/String"), accessFlags := 18, slot := 0, constantValue := 0 }, { name := "minimumBreaks", type := .int, accessFlags := 18, slot := 1, constantValue := 0 }]
  methods := #[k10m0, k10m1]
  instanceTypes := #[(.object "java/lang/String"), .int]
  staticTypes := #[]
  resolved := Array.replicate 75 none
  statics := none }

def pool11 : Array CpInfo := pool [(1, .class_ 2), (0, u "java/lang/Math"), (1, .class_ 6), (1, u "java/lang/Object"), (0, u "<init>"), (0, u "()V"), (89, .class_ 100), (1, u "java/lang/Math$RandomNumberGeneratorHolder"), (71, u "negativeZeroFloatBits"), (0, u "J"), (2, u "negativeZeroDoubleBits"), (21, u "max"), (46, u "$assertionsDisabled"), (0, u "Z"), (88, u "(II)I"), (2, u "twoToTheDoubleScaleDown"), (0, u "D"), (4, u "twoToTheDoubleScaleUp"), (9, u "E"), (3, u "PI"), (2, u "TAU"), (2, u "DEGREES_TO_RADIANS"), (0, u "RADIANS_TO_DEGREES")] 94

def k11m0 : Method := { name := "<init>", desc := "()V", sig := { parameters := [], returnType := none }, accessFlags := 2, code := none }
def k11c1 : Code := { maxStack := 2, maxLocals := 2, code := jdk_29_method_65_code, exceptionTable := #[], attributes := #[] }
def k11m1 : Method := { name := "max", desc := "(II)I", sig := { parameters := [.int, .int], returnType := some .int }, accessFlags := 9, code := some k11c1 }
/-- java/lang/Math -/
def k11 : Class := { plain "java/lang/Math" (some 0) with
  accessFlags := 49
  interfaces := #[]
  cf := some (fileOf pool11 1 #[.nestMembers #[98]] #[{ accessFlags := 2, nameIndex := 7, descriptorIndex := 8, attributes := #[] }, { accessFlags := 9, nameIndex := 198, descriptorIndex := 335, attributes := #[] }] 49 4 #[] #[{ accessFlags := 25, nameIndex := 354, descriptorIndex := 339, attributes := #[] }, { accessFlags := 25, nameIndex := 358, descriptorIndex := 339, attributes := #[] }, { accessFlags := 25, nameIndex := 361, descriptorIndex := 339, attributes := #[] }, { accessFlags := 26, nameIndex := 364, descriptorIndex := 339, attributes := #[] }, { accessFlags := 26, nameIndex := 365, descriptorIndex := 339, attributes := #[] }, { accessFlags := 26, nameIndex := 172, descriptorIndex := 173, attributes := #[] }, { accessFlags := 26, nameIndex := 176, descriptorIndex := 173, attributes := #[] }, { accessFlags := 8, nameIndex := 344, descriptorIndex := 339, attributes := #[] }, { accessFlags := 8, nameIndex := 338, descriptorIndex := 339, attributes := #[] }, { accessFlags := 4120, nameIndex := 245, descriptorIndex := 246, attributes := #[] }])
  fields := #[{ name := "E", type := .double, accessFlags := 25, slot := 0, constantValue := 0 }, { name := "PI", type := .double, accessFlags := 25, slot := 1, constantValue := 0 }, { name := "TAU", type := .double, accessFlags := 25, slot := 2, constantValue := 0 }, { name := "DEGREES_TO_RADIANS", type := .double, accessFlags := 26, slot := 3, constantValue := 0 }, { name := "RADIANS_TO_DEGREES", type := .double, accessFlags := 26, slot := 4, constantValue := 0 }, { name := "negativeZeroFloatBits", type := .long, accessFlags := 26, slot := 5, constantValue := 0 }, { name := "negativeZeroDoubleBits", type := .long, accessFlags := 26, slot := 6, constantValue := 0 }, { name := "twoToTheDoubleScaleUp", type := .double, accessFlags := 8, slot := 7, constantValue := 0 }, { name := "twoToTheDoubleScaleDown", type := .double, accessFlags := 8, slot := 8, constantValue := 0 }, { name := "$assertionsDisabled", type := .boolean, accessFlags := 4120, slot := 9, constantValue := 0 }]
  methods := #[k11m0, k11m1]
  instanceTypes := #[]
  staticTypes := #[.double, .double, .double, .double, .double, .long, .long, .double, .double, .boolean]
  resolved := Array.replicate 460 none
  statics := none }

def pool12 : Array CpInfo := pool [(2, .class_ 4), (1, u "java/lang/Object"), (0, u "<init>"), (0, u "()V"), (17, .class_ 26), (1, u "jdk/internal/util/Preconditions"), (28, .class_ 56), (0, u "jdk/internal/util/Preconditions$4"), (57, .class_ 115), (0, u "jdk/internal/util/Preconditions$1"), (7, u "SIOOBE_FORMATTER"), (0, u "Ljava/util/function/BiFunction;"), (0, .class_ 126), (0, u "jdk/internal/util/Preconditions$2"), (3, u "AIOOBE_FORMATTER"), (0, .class_ 132), (0, u "jdk/internal/util/Preconditions$3"), (3, u "IOOBE_FORMATTER")] 57

def k12m0 : Method := { name := "<init>", desc := "()V", sig := { parameters := [], returnType := none }, accessFlags := 1, code := none }
/-- jdk/internal/util/Preconditions -/
def k12 : Class := { plain "jdk/internal/util/Preconditions" (some 0) with
  accessFlags := 33
  interfaces := #[]
  cf := some (fileOf pool12 24 #[.nestMembers #[55, 131, 125, 114]] #[{ accessFlags := 1, nameIndex := 5, descriptorIndex := 6, attributes := #[] }] 33 2 #[] #[{ accessFlags := 25, nameIndex := 123, descriptorIndex := 124, attributes := #[] }, { accessFlags := 25, nameIndex := 130, descriptorIndex := 124, attributes := #[] }, { accessFlags := 25, nameIndex := 136, descriptorIndex := 124, attributes := #[] }])
  fields := #[{ name := "SIOOBE_FORMATTER", type := (.object "java/util/function/BiFunction"), accessFlags := 25, slot := 0, constantValue := 0 }, { name := "AIOOBE_FORMATTER", type := (.object "java/util/function/BiFunction"), accessFlags := 25, slot := 1, constantValue := 0 }, { name := "IOOBE_FORMATTER", type := (.object "java/util/function/BiFunction"), accessFlags := 25, slot := 2, constantValue := 0 }]
  methods := #[k12m0]
  instanceTypes := #[]
  staticTypes := #[(.object "java/util/function/BiFunction"), (.object "java/util/function/BiFunction"), (.object "java/util/function/BiFunction")]
  resolved := Array.replicate 194 none
  statics := some 1 }

def pool13 : Array CpInfo := pool [(9, u "<init>"), (6, .class_ 18), (1, u "java/lang/Object"), (0, u "()V"), (1, .class_ 23), (1, u "jdk/internal/util/ArraysSupport"), (0, u "LOG2_ARRAY_LONG_INDEX_SCALE"), (0, u "I"), (2, u "U"), (0, u "Ljdk/internal/misc/Unsafe;"), (8, u "BIG_ENDIAN"), (0, u "Z"), (8, u "LOG2_BYTE_BIT_SIZE"), (4, u "LOG2_ARRAY_INT_INDEX_SCALE"), (54, u "JLA"), (0, u "Ljdk/internal/access/JavaLangAccess;"), (11, u "LOG2_ARRAY_BOOLEAN_INDEX_SCALE"), (9, u "LOG2_ARRAY_BYTE_INDEX_SCALE"), (5, u "LOG2_ARRAY_CHAR_INDEX_SCALE"), (5, u "LOG2_ARRAY_SHORT_INDEX_SCALE"), (18, u "LOG2_ARRAY_FLOAT_INDEX_SCALE"), (24, u "LOG2_ARRAY_DOUBLE_INDEX_SCALE"), (89, u "T_BOOLEAN"), (2, u "T_CHAR"), (1, u "T_FLOAT"), (1, u "T_DOUBLE"), (1, u "T_BYTE"), (1, u "T_SHORT"), (1, u "T_INT"), (1, u "T_LONG"), (1, u "SOFT_MAX_ARRAY_LENGTH")] 83

def k13m0 : Method := { name := "<init>", desc := "()V", sig := { parameters := [], returnType := none }, accessFlags := 2, code := none }
/-- jdk/internal/util/ArraysSupport -/
def k13 : Class := { plain "jdk/internal/util/ArraysSupport" (some 0) with
  accessFlags := 33
  interfaces := #[]
  cf := some (fileOf pool13 21 #[] #[{ accessFlags := 2, nameIndex := 9, descriptorIndex := 19, attributes := #[] }] 33 16 #[] #[{ accessFlags := 24, nameIndex := 28, descriptorIndex := 29, attributes := #[] }, { accessFlags := 26, nameIndex := 38, descriptorIndex := 39, attributes := #[] }, { accessFlags := 25, nameIndex := 121, descriptorIndex := 25, attributes := #[] }, { accessFlags := 25, nameIndex := 131, descriptorIndex := 25, attributes := #[] }, { accessFlags := 25, nameIndex := 137, descriptorIndex := 25, attributes := #[] }, { accessFlags := 25, nameIndex := 143, descriptorIndex := 25, attributes := #[] }, { accessFlags := 25, nameIndex := 53, descriptorIndex := 25, attributes := #[] }, { accessFlags := 25, nameIndex := 24, descriptorIndex := 25, attributes := #[] }, { accessFlags := 25, nameIndex := 162, descriptorIndex := 25, attributes := #[] }, { accessFlags := 25, nameIndex := 187, descriptorIndex := 25, attributes := #[] }, { accessFlags := 26, nameIndex := 48, descriptorIndex := 25, attributes := #[] }, { accessFlags := 25, nameIndex := 277, descriptorIndex := 25, attributes := #[] }, { accessFlags := 25, nameIndex := 280, descriptorIndex := 25, attributes := #[] }, { accessFlags := 25, nameIndex := 282, descriptorIndex := 25, attributes := #[] }, { accessFlags := 25, nameIndex := 284, descriptorIndex := 25, attributes := #[] }, { accessFlags := 25, nameIndex := 286, descriptorIndex := 25, attributes := #[] }, { accessFlags := 25, nameIndex := 288, descriptorIndex := 25, attributes := #[] }, { accessFlags := 25, nameIndex := 290, descriptorIndex := 25, attributes := #[] }, { accessFlags := 25, nameIndex := 292, descriptorIndex := 25, attributes := #[] }, { accessFlags := 26, nameIndex := 108, descriptorIndex := 109, attributes := #[] }, { accessFlags := 25, nameIndex := 294, descriptorIndex := 25, attributes := #[] }])
  fields := #[{ name := "U", type := (.object "jdk/internal/misc/Unsafe"), accessFlags := 24, slot := 0, constantValue := 0 }, { name := "BIG_ENDIAN", type := .boolean, accessFlags := 26, slot := 1, constantValue := 0 }, { name := "LOG2_ARRAY_BOOLEAN_INDEX_SCALE", type := .int, accessFlags := 25, slot := 2, constantValue := 0 }, { name := "LOG2_ARRAY_BYTE_INDEX_SCALE", type := .int, accessFlags := 25, slot := 3, constantValue := 0 }, { name := "LOG2_ARRAY_CHAR_INDEX_SCALE", type := .int, accessFlags := 25, slot := 4, constantValue := 0 }, { name := "LOG2_ARRAY_SHORT_INDEX_SCALE", type := .int, accessFlags := 25, slot := 5, constantValue := 0 }, { name := "LOG2_ARRAY_INT_INDEX_SCALE", type := .int, accessFlags := 25, slot := 6, constantValue := 0 }, { name := "LOG2_ARRAY_LONG_INDEX_SCALE", type := .int, accessFlags := 25, slot := 7, constantValue := 0 }, { name := "LOG2_ARRAY_FLOAT_INDEX_SCALE", type := .int, accessFlags := 25, slot := 8, constantValue := 0 }, { name := "LOG2_ARRAY_DOUBLE_INDEX_SCALE", type := .int, accessFlags := 25, slot := 9, constantValue := 0 }, { name := "LOG2_BYTE_BIT_SIZE", type := .int, accessFlags := 26, slot := 10, constantValue := 0 }, { name := "T_BOOLEAN", type := .int, accessFlags := 25, slot := 11, constantValue := 0 }, { name := "T_CHAR", type := .int, accessFlags := 25, slot := 12, constantValue := 0 }, { name := "T_FLOAT", type := .int, accessFlags := 25, slot := 13, constantValue := 0 }, { name := "T_DOUBLE", type := .int, accessFlags := 25, slot := 14, constantValue := 0 }, { name := "T_BYTE", type := .int, accessFlags := 25, slot := 15, constantValue := 0 }, { name := "T_SHORT", type := .int, accessFlags := 25, slot := 16, constantValue := 0 }, { name := "T_INT", type := .int, accessFlags := 25, slot := 17, constantValue := 0 }, { name := "T_LONG", type := .int, accessFlags := 25, slot := 18, constantValue := 0 }, { name := "JLA", type := (.object "jdk/internal/access/JavaLangAccess"), accessFlags := 26, slot := 19, constantValue := 0 }, { name := "SOFT_MAX_ARRAY_LENGTH", type := .int, accessFlags := 25, slot := 20, constantValue := 0 }]
  methods := #[k13m0]
  instanceTypes := #[]
  staticTypes := #[(.object "jdk/internal/misc/Unsafe"), .boolean, .int, .int, .int, .int, .int, .int, .int, .int, .int, .int, .int, .int, .int, .int, .int, .int, .int, (.object "jdk/internal/access/JavaLangAccess"), .int]
  resolved := Array.replicate 378 none
  statics := none }

def pool14 : Array CpInfo := pool [(1, u "java/lang/Cloneable"), (0, .class_ 1), (0, u "java/lang/Object"), (0, .class_ 3)] 3

/-- java/lang/Cloneable -/
def k14 : Class := { plain "java/lang/Cloneable" (some 0) with
  accessFlags := 1537
  interfaces := #[]
  cf := some (fileOf pool14 2 #[] #[] 1537 4 #[] #[])
  fields := #[]
  methods := #[]
  instanceTypes := #[]
  staticTypes := #[]
  resolved := Array.replicate 8 none
  statics := none }

/-- the primitive byte -/
def k15 : Class := { plain "byte" none with kind := .primitive 'B', accessFlags := 0x411 }
/-- [B -/
def k16 : Class := { plain "[B" (some 0) with kind := .array 15 .byte, interfaces := #[14, 2], accessFlags := 1041 }

/-- the primitive int -/
def k17 : Class := { plain "int" none with kind := .primitive 'I', accessFlags := 0x411 }
/-- [I -/
def k18 : Class := { plain "[I" (some 0) with kind := .array 17 .int, interfaces := #[14, 2], accessFlags := 1041 }

def heap : Heap := #[{ cls := 7, slots := #[.long 0, .int 1, .null, .int 0, .null, .int 0, .int 0], vm := .statics 7 },
  { cls := 12, slots := #[.null, .null, .null], vm := .statics 12 }]
def classes : Array Class := #[k0, k1, k2, k3, k4, k5, k6, k7, k8, k9, k10, k11, k12, k13, k14, k15, k16, k17, k18]
def interned : List (Array UInt16 × Addr) := []
def slotsUsed : Nat := 10
def theMethod : MethodId := ⟨1, 1⟩
def args0 : Array Value := #[.int 1, .int 2, .int 3, .int 4, .int 65]
def aboutOver (below : List Frame) : State where
  vm := { classes := classes, interned := interned.toArray }
  heap := heap
  slotsUsed := slotsUsed
  threads := #[{ frames := .invoking theMethod args0 :: below }]
def below0 : List Frame := [.native { method := ⟨0, 0⟩, args := #[] }]
def about1 : State := aboutOver below0
def p0 : Program := .bare "" "" ""
def e0 : Env := launch0.env 0 0 0
theorem w_frames : about1.frames = Frame.invoking theMethod args0 :: below0 := rfl
set_option maxRecDepth 65536 in
theorem w_args : argsFit about1.vm theMethod args0 = true := by decide +kernel
set_option maxRecDepth 65536 in
theorem w_heap : heapFits about1 = true := by decide +kernel
set_option maxRecDepth 65536 in
theorem w_runnable : about1.curStatus? = some .runnable := by decide +kernel
set_option maxRecDepth 65536 in
theorem w_alone : about1.alone = true := by decide +kernel
set_option maxRecDepth 65536 in
theorem w_named : about1.methodNamed? x = some theMethod := by decide +kernel
set_option maxRecDepth 65536 in
theorem w_hears : about1.hears theMethod below0 = true := by decide +kernel
set_option maxRecDepth 65536 in
theorem w_ripe : about1.ripe theMethod args0 below0 = true := by decide +kernel
theorem w_running : about1.status = .running := rfl
set_option maxRecDepth 65536 in
theorem w_room : about1.hasRoom e0.platform room_1 = true :=
  launch0.hasRoom_least _ room_1 (by decide +kernel) (by decide +kernel) (by decide +kernel) (by decide +kernel) (by decide +kernel) (by decide +kernel)
theorem allAtoms_all (ts : List Jvm.Cond) (a : Array Jvm.Value) (st : Jvm.State) : (allAtoms ts).before a st = ts.all (fun c => c.before a st) := by
  induction ts with
  | nil => rfl
  | cons c t ih =>
    show (Jvm.Cond.and c (allAtoms t)).before a st = _
    rw [Jvm.Cond.before_and, ih, List.all_cons]
def words1 : List Jvm.Cond := Jvm.Cond.code x code maxLocals ret :: tables_1
/-- a 'code' word, met by the world's own term for the bytes: nothing is compared byte by byte -/
theorem code_word {y : MethodName} {bytes : ByteArray} {mx : Nat} {rt : Option FieldType} {a : Array Value} {s : State} {m : MethodId} {meth : Method} {c : Code} (h1 : s.methodNamed? y = some m) (h2 : s.vm.method? m = some meth) (h3 : meth.code = some c) (h4 : c.code = bytes)
    (h5 : (c.maxLocals == mx && c.exceptionTable.isEmpty && decide (c.maxStack ≤ mostOperands) && decide (meth.sig.returnType = rt) && !meth.locks && decide (parseMethodDescriptor y.desc = some meth.sig)) = true) : (Jvm.Cond.code y bytes mx rt).before a s = true := by
  simp only [Bool.and_eq_true, beq_iff_eq, Bool.not_eq_true', decide_eq_true_eq] at h5
  obtain ⟨⟨⟨⟨⟨g1, g2⟩, g3⟩, g4⟩, g5⟩, g6⟩ := h5
  simp [Cond.before, Cond.holds, Cond.value, h1, h2, h3, h4, g1, g2, g3, g4, g5, g6]
def isCode : Jvm.Cond → Bool
  | .code _ _ _ _ => true
  | _ => false
theorem all_split {L : List Jvm.Cond} {P : Jvm.Cond → Bool} (h1 : L.all (fun c => isCode c || P c) = true) (h2 : ∀ c ∈ L.filter isCode, P c = true) : L.all P = true := by
  refine List.all_eq_true.mpr fun c hc => ?_
  have h := List.all_eq_true.mp h1 c hc
  rcases Bool.eq_false_or_eq_true (isCode c) with hi | hi
  · exact h2 c (List.mem_filter.mpr ⟨hc, hi⟩)
  · simpa [hi] using h
set_option maxRecDepth 65536 in
theorem w_c0 : (Jvm.Cond.code x code maxLocals ret).before args0 about1 = true := code_word (m := ⟨1, 1⟩) (meth := k1m1) (c := k1c1) (by decide +kernel) rfl rfl rfl (by decide +kernel)
set_option maxRecDepth 65536 in
theorem w_c1 : (Jvm.Cond.code ({ cls := "java/lang/String", name := "valueOf", desc := "(C)Ljava/lang/String;" } : Jvm.MethodName) jdk_42_method_139_code (1 : Nat) (Option.some (Jvm.ClassFile.FieldType.object "java/lang/String"))).before args0 about1 = true := code_word (m := ⟨7, 1⟩) (meth := k7m1) (c := k7c1) (by decide +kernel) rfl rfl rfl (by decide +kernel)
set_option maxRecDepth 65536 in
theorem w_c2 : (Jvm.Cond.code ({ cls := "java/lang/StringLatin1", name := "canEncode", desc := "(C)Z" } : Jvm.MethodName) jdk_43_method_3_code (1 : Nat) (Option.some Jvm.ClassFile.FieldType.boolean)).before args0 about1 = true := code_word (m := ⟨8, 1⟩) (meth := k8m1) (c := k8c1) (by decide +kernel) rfl rfl rfl (by decide +kernel)
set_option maxRecDepth 65536 in
theorem w_c3 : (Jvm.Cond.code ({ cls := "java/lang/StringLatin1", name := "toBytes", desc := "(C)[B" } : Jvm.MethodName) jdk_43_method_46_code (1 : Nat) (Option.some (Jvm.ClassFile.FieldType.array Jvm.ClassFile.FieldType.byte))).before args0 about1 = true := code_word (m := ⟨8, 2⟩) (meth := k8m2) (c := k8c2) (by decide +kernel) rfl rfl rfl (by decide +kernel)
set_option maxRecDepth 65536 in
theorem w_c4 : (Jvm.Cond.code ({ cls := "java/lang/String", name := "<init>", desc := "([BB)V" } : Jvm.MethodName) jdk_42_method_151_code (3 : Nat) (Option.none : Option Jvm.ClassFile.FieldType)).before args0 about1 = true := code_word (m := ⟨7, 2⟩) (meth := k7m2) (c := k7c2) (by decide +kernel) rfl rfl rfl (by decide +kernel)
set_option maxRecDepth 65536 in
theorem w_c5 : (Jvm.Cond.code ({ cls := "java/lang/Object", name := "<init>", desc := "()V" } : Jvm.MethodName) object_method_1_code (1 : Nat) (Option.none : Option Jvm.ClassFile.FieldType)).before args0 about1 = true := code_word (m := ⟨0, 0⟩) (meth := k0m0) (c := k0c0) (by decide +kernel) rfl rfl rfl (by decide +kernel)
set_option maxRecDepth 65536 in
theorem w_c6 : (Jvm.Cond.code ({ cls := "com/example/vestwright/vestwright/vesting/Reemployment", name := "<init>", desc := "(Ljava/lang/String;I)V" } : Jvm.MethodName) prog_56_method_1_code (3 : Nat) (Option.none : Option Jvm.ClassFile.FieldType)).before args0 about1 = true := code_word (m := ⟨10, 0⟩) (meth := k10m0) (c := k10c0) (by decide +kernel) rfl rfl rfl (by decide +kernel)
set_option maxRecDepth 65536 in
theorem w_c7 : (Jvm.Cond.code ({ cls := "java/lang/Record", name := "<init>", desc := "()V" } : Jvm.MethodName) jdk_30_method_1_code (1 : Nat) (Option.none : Option Jvm.ClassFile.FieldType)).before args0 about1 = true := code_word (m := ⟨9, 0⟩) (meth := k9m0) (c := k9c0) (by decide +kernel) rfl rfl rfl (by decide +kernel)
set_option maxRecDepth 65536 in
theorem w_c8 : (Jvm.Cond.code ({ cls := "com/example/vestwright/vestwright/vesting/Reemployment", name := "countsServiceBefore", desc := "(ZII)Z" } : Jvm.MethodName) prog_56_method_2_code (4 : Nat) (Option.some Jvm.ClassFile.FieldType.boolean)).before args0 about1 = true := code_word (m := ⟨10, 1⟩) (meth := k10m1) (c := k10c1) (by decide +kernel) rfl rfl rfl (by decide +kernel)
set_option maxRecDepth 65536 in
theorem w_c9 : (Jvm.Cond.code ({ cls := "java/lang/Math", name := "max", desc := "(II)I" } : Jvm.MethodName) jdk_29_method_65_code (2 : Nat) (Option.some Jvm.ClassFile.FieldType.int)).before args0 about1 = true := code_word (m := ⟨11, 1⟩) (meth := k11m1) (c := k11c1) (by decide +kernel) rfl rfl rfl (by decide +kernel)
def codes1 : List Jvm.Cond := [Jvm.Cond.code x code maxLocals ret, Jvm.Cond.code ({ cls := "java/lang/String", name := "valueOf", desc := "(C)Ljava/lang/String;" } : Jvm.MethodName) jdk_42_method_139_code (1 : Nat) (Option.some (Jvm.ClassFile.FieldType.object "java/lang/String")), Jvm.Cond.code ({ cls := "java/lang/StringLatin1", name := "canEncode", desc := "(C)Z" } : Jvm.MethodName) jdk_43_method_3_code (1 : Nat) (Option.some Jvm.ClassFile.FieldType.boolean), Jvm.Cond.code ({ cls := "java/lang/StringLatin1", name := "toBytes", desc := "(C)[B" } : Jvm.MethodName) jdk_43_method_46_code (1 : Nat) (Option.some (Jvm.ClassFile.FieldType.array Jvm.ClassFile.FieldType.byte)), Jvm.Cond.code ({ cls := "java/lang/String", name := "<init>", desc := "([BB)V" } : Jvm.MethodName) jdk_42_method_151_code (3 : Nat) (Option.none : Option Jvm.ClassFile.FieldType), Jvm.Cond.code ({ cls := "java/lang/Object", name := "<init>", desc := "()V" } : Jvm.MethodName) object_method_1_code (1 : Nat) (Option.none : Option Jvm.ClassFile.FieldType), Jvm.Cond.code ({ cls := "com/example/vestwright/vestwright/vesting/Reemployment", name := "<init>", desc := "(Ljava/lang/String;I)V" } : Jvm.MethodName) prog_56_method_1_code (3 : Nat) (Option.none : Option Jvm.ClassFile.FieldType), Jvm.Cond.code ({ cls := "java/lang/Record", name := "<init>", desc := "()V" } : Jvm.MethodName) jdk_30_method_1_code (1 : Nat) (Option.none : Option Jvm.ClassFile.FieldType), Jvm.Cond.code ({ cls := "com/example/vestwright/vestwright/vesting/Reemployment", name := "countsServiceBefore", desc := "(ZII)Z" } : Jvm.MethodName) prog_56_method_2_code (4 : Nat) (Option.some Jvm.ClassFile.FieldType.boolean), Jvm.Cond.code ({ cls := "java/lang/Math", name := "max", desc := "(II)I" } : Jvm.MethodName) jdk_29_method_65_code (2 : Nat) (Option.some Jvm.ClassFile.FieldType.int)]
set_option maxRecDepth 65536 in
theorem codes_eq : words1.filter isCode = codes1 := rfl
theorem w_codes : ∀ c ∈ words1.filter isCode, c.before args0 about1 = true := by
  rw [codes_eq]
  intro c hc
  simp only [codes1, List.mem_cons, List.not_mem_nil, or_false] at hc
  rcases hc with rfl | rfl | rfl | rfl | rfl | rfl | rfl | rfl | rfl | rfl
  · exact w_c0
  · exact w_c1
  · exact w_c2
  · exact w_c3
  · exact w_c4
  · exact w_c5
  · exact w_c6
  · exact w_c7
  · exact w_c8
  · exact w_c9
set_option maxRecDepth 65536 in
theorem w_t1 : (words1.take 24).all (fun c => isCode c || c.before args0 about1) = true := by decide +kernel
set_option maxRecDepth 65536 in
theorem w_t2 : ((words1.drop 24).take 24).all (fun c => isCode c || c.before args0 about1) = true := by decide +kernel
set_option maxRecDepth 65536 in
theorem w_t3 : ((words1.drop 24).drop 24).all (fun c => isCode c || c.before args0 about1) = true := by decide +kernel
theorem w_tables : (allAtoms (Jvm.Cond.code x code maxLocals ret :: tables_1)).before args0 about1 = true := by
  rw [allAtoms_all]
  show words1.all (fun c => c.before args0 about1) = true
  refine all_split ?_ w_codes
  rw [← List.take_append_drop 24 words1, List.all_append, w_t1, ← List.take_append_drop 24 (words1.drop 24), List.all_append, w_t2, w_t3]
  rfl
set_option maxRecDepth 65536 in
theorem w_rest : rest_1_c.before args0 about1 = true := by decide +kernel
set_option maxRecDepth 65536 in
theorem w_case : (Jvm.Cond.and given_1 narrow_1).before args0 about1 = true := by decide +kernel
theorem w_applies : (headSpec (Jvm.Cond.code x code maxLocals ret :: tables_1) room_1).applies x e0.platform about1 = true :=
  (Spec.applies_iff w_frames).mpr ⟨w_running, w_runnable, w_alone, w_named, w_hears, w_ripe, w_room, w_tables⟩
theorem atStart : AtStart classFile x code maxLocals ret World_1 tables_1 room_1 Calls_1 rest_1 Pre_1 launch0 p0 e0 about1 theMethod args0 below0 :=
  ⟨lists_1, trivial, launch0.admits_env _ _ _, launch0.least_env, fairChoices_fair.cas, fairChoices_fair.clock, w_frames, w_args, w_heap, w_applies, trivial, w_rest, w_case⟩
end start1
theorem witness_1 : WitnessClaimed_1 := ⟨start1.p0, start1.e0, start1.about1, start1.theMethod, start1.args0, start1.below0, start1.atStart⟩
end Jvm.Pilot.@@N@@
