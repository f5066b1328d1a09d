import JvmDerived
import JvmDerived.Pilot.@@N@@Statement
import JvmDerived.Pilot.@@N@@Code
set_option linter.unusedVariables false
set_option linter.unusedSimpArgs false
namespace Jvm.Pilot.@@N@@
open Jvm Jvm.ClassFile Sem Op Lib Jvm.Free Jvm.Stand Jvm.LawKit Jvm.RoadKit Bundle Jvm.Pilot.@@N@@.Jvm.D
section Own
/-! comparisons, said of the integers -/
theorem own_ieq {x y : Int32} (h : x = y) : x.toInt = y.toInt := by rw [h]
theorem own_ine {x y : Int32} (h : ¬ (x = y)) : x.toInt ≠ y.toInt := fun q => h (Int32.toInt_inj.mp q)
theorem own_ilt {x y : Int32} (h : x < y) : x.toInt < y.toInt := Int32.lt_iff_toInt_lt.mp h
theorem own_inl {x y : Int32} (h : ¬ (x < y)) : y.toInt ≤ x.toInt := Int.not_lt.mp fun q => h (Int32.lt_iff_toInt_lt.mpr q)
theorem own_ieq_of {x y : Int32} (h : x.toInt = y.toInt) : x = y := Int32.toInt_inj.mp h
theorem own_ine_of {x y : Int32} (h : x.toInt ≠ y.toInt) : ¬ (x = y) := fun q => h (by rw [q])
theorem own_ilt_of {x y : Int32} (h : x.toInt < y.toInt) : x < y := Int32.lt_iff_toInt_lt.mpr h
theorem own_inl_of {x y : Int32} (h : y.toInt ≤ x.toInt) : ¬ (x < y) := fun q => Int.not_lt.mpr h (Int32.lt_iff_toInt_lt.mp q)
theorem own_leq {x y : Int64} (h : x = y) : x.toInt = y.toInt := by rw [h]
theorem own_lne {x y : Int64} (h : ¬ (x = y)) : x.toInt ≠ y.toInt := fun q => h (Int64.toInt_inj.mp q)
theorem own_llt {x y : Int64} (h : x < y) : x.toInt < y.toInt := Int64.lt_iff_toInt_lt.mp h
theorem own_lnl {x y : Int64} (h : ¬ (x < y)) : y.toInt ≤ x.toInt := Int.not_lt.mp fun q => h (Int64.lt_iff_toInt_lt.mpr q)
theorem own_leq_of {x y : Int64} (h : x.toInt = y.toInt) : x = y := Int64.toInt_inj.mp h
theorem own_lne_of {x y : Int64} (h : x.toInt ≠ y.toInt) : ¬ (x = y) := fun q => h (by rw [q])
theorem own_llt_of {x y : Int64} (h : x.toInt < y.toInt) : x < y := Int64.lt_iff_toInt_lt.mpr h
theorem own_lnl_of {x y : Int64} (h : y.toInt ≤ x.toInt) : ¬ (x < y) := fun q => Int.not_lt.mpr h (Int64.lt_iff_toInt_lt.mp q)
variable {p : Program} {l : Launch} {e : Env} {R : Room} {s : State} {m : MethodId} {args : Array Value} {below : List Frame} {meth : Method} {c : Code} {T : State} {locs : List Loc} {cells slots : Nat} {Z : State} {a0 : Array Value} {h : Heap} {Q : Option Value → Heap → List Loc → Prop} {kc ks : Nat} {S S' : State}
/-- from S the invocation comes back; Q holds of what it returned, of the heap and of the places written -/
def own_Ends (p : Program) (e : Env) (below : List Frame) (s : State) (Q : Option Value → Heap → List Loc → Prop) (kc ks : Nat) (S : State) : Prop :=
  ∃ s₂ o, Steps p.tables e below S s₂ ∧ s₂.status = .running ∧ Ended s₂ below o ∧ ∃ v L, o = .returned v ∧ Q v s₂.heap L ∧ FrameEnd s o s₂ L kc ks
theorem own_up (st : ∀ t, Steps p.tables e below S' t → Steps p.tables e below S t) (k : own_Ends p e below s Q kc ks S') : own_Ends p e below s Q kc ks S := by
  obtain ⟨t, o, h1, h2⟩ := k
  exact ⟨t, o, st t h1, h2⟩
theorem own_met {y : MethodName} {code : ByteArray} {maxL : Nat} {ret : Option FieldType} {rm : Room} {as' : Array Value} {ws : List Jvm.Cond} {L0 : Array Slot}
    (hpl : plainFor y = true) (hef : ∀ m, entryFrame m as' maxL = mkF m 0 L0 [])
    (body : ∀ (p : Program) (e : Env) (s : State) (m : MethodId) (below : List Frame) (meth : Method) (c : Code) (T : State), p.tables.exec = Jvm.exec → c.code = code → c.maxLocals = maxL → s.vm.findClass y.cls = some m.cls → meth.name = y.name → meth.sig.returnType = ret → meth.locks = false → Z.Warmed39 s.vm → T.heap = h → Stand p l e rm s m as' below meth c T [] 0 0 → own_Ends p e below s Q rm.cells rm.slots (T.setTop (mkF m 0 L0 []))) :
    MetFree l y (head1 (Jvm.Cond.code y code maxL ret :: ws) rm) (fun a U => a = as' ∧ Z.Warmed39 U.vm ∧ U.heap = h) (fun _ _ _ _ _ => True) (fun _ U o U' => ∃ v L, o = .returned v ∧ Q v U'.heap L ∧ FrameEnd U o U' L rm.cells rm.slots) := by
  refine MetFree.of_bodySF hpl hisR ?_
  intro p e s m args below meth c s₁ Bd hml hP hK
  obtain ⟨rfl, hZ, hh⟩ := hP
  rw [hef m]
  exact body p e s m below meth c s₁ Bd.exec Bd.bytes hml (findClass_of_methodNamed Bd.named) (name_of_methodNamed Bd.named Bd.method).1 Bd.returns (BodyLoose.notSynchronized Bd) hZ (by rw [← hh, Bd.state]; rfl) (Stand.of_body Bd)
/-! returns -/
theorem own_iret (X : Stand p l e R s m args below meth c T locs cells slots) (hx : p.tables.exec = Jvm.exec) {pc : Nat} {Ls : Array Slot} {z : Int32} {rest : List Value} (hret : meth.sig.returnType = some .int) (hd : decode c.code pc = .ok (.ireturn, 1)) {fs : List Frame}
    (hl : ∀ (f : JFrame) (acts : List Action), f.method = m → f.locked = none → f.entered = [] → (doReturn e (T.setTop f) acts (some (.int z))).1 = T.setFrames fs) : Steps p.tables e below (T.setTop (mkF m pc Ls (.int z :: rest))) (T.setFrames fs) :=
  retOut X hx hret rfl (Or.inl ⟨rfl, Or.inl rfl, _, rfl⟩) hd hl
theorem own_retI (X : Stand p l e R s m args below meth c T locs cells slots) (hx : p.tables.exec = Jvm.exec) (hlk : meth.locks = false) (hret : meth.sig.returnType = some .int) {pc : Nat} {Ls : Array Slot} {z : Int32} {rest : List Value} (hd : decode c.code pc = .ok (.ireturn, 1)) (hc : cells ≤ kc) (hs : slots ≤ ks) (hq : Q (some (.int z)) T.heap locs) :
    own_Ends p e below s Q kc ks (T.setTop (mkF m pc Ls (.int z :: rest))) := by
  obtain ⟨fs, hr, hrun, hended, hW, hsame⟩ := X.leave (v := some (.int z)) (fun q => by rw [hret] at q; cases q) hlk
  exact ⟨_, _, own_iret X hx hret hd hr, hrun, hended, _, _, rfl, hq, ⟨_, rfl⟩, hW, hsame.mono hc hs⟩
theorem own_retN (X : Stand p l e R s m args below meth c T locs cells slots) (hx : p.tables.exec = Jvm.exec) (hlk : meth.locks = false) {t : FieldType} (hret : meth.sig.returnType = some t) (ht : t = .boolean ∨ t = .byte ∨ t = .char ∨ t = .short) {pc : Nat} {Ls : Array Slot} {z z' : Int32} {rest : List Value} (hn : nar t z = z') (hd : decode c.code pc = .ok (.ireturn, 1)) (hc : cells ≤ kc) (hs : slots ≤ ks) (hq : Q (some (.int z')) T.heap locs) :
    own_Ends p e below s Q kc ks (T.setTop (mkF m pc Ls (.int z :: rest))) := by
  subst hn
  obtain ⟨fs, hr, hrun, hended, hW, hsame⟩ := X.leave (v := some (.int (nar t z))) (fun q => by rw [hret] at q; cases q) hlk
  exact ⟨_, _, retN X hx hret ht hd hr, hrun, hended, _, _, rfl, hq, ⟨_, rfl⟩, hW, hsame.mono hc hs⟩
theorem own_retL (X : Stand p l e R s m args below meth c T locs cells slots) (hx : p.tables.exec = Jvm.exec) (hlk : meth.locks = false) (hret : meth.sig.returnType = some .long) {pc : Nat} {Ls : Array Slot} {z : Int64} {rest : List Value} (hd : decode c.code pc = .ok (.lreturn, 1)) (hc : cells ≤ kc) (hs : slots ≤ ks) (hq : Q (some (.long z)) T.heap locs) :
    own_Ends p e below s Q kc ks (T.setTop (mkF m pc Ls (.long z :: rest))) := by
  obtain ⟨fs, hr, hrun, hended, hW, hsame⟩ := X.leave (v := some (.long z)) (fun q => by rw [hret] at q; cases q) hlk
  exact ⟨_, _, retOut X hx hret rfl (Or.inr (Or.inl ⟨rfl, rfl, _, rfl⟩)) hd hr, hrun, hended, _, _, rfl, hq, ⟨_, rfl⟩, hW, hsame.mono hc hs⟩
theorem own_retA (X : Stand p l e R s m args below meth c T locs cells slots) (hx : p.tables.exec = Jvm.exec) (hlk : meth.locks = false) {t : FieldType} (hret : meth.sig.returnType = some t) (ht : t.isReference = true) {pc : Nat} {Ls : Array Slot} {a : Addr} {rest : List Value} (hn : narrow t (.ref a) = .ref a) (hd : decode c.code pc = .ok (.areturn, 1)) (hc : cells ≤ kc) (hs : slots ≤ ks) (hq : Q (some (.ref a)) T.heap locs) :
    own_Ends p e below s Q kc ks (T.setTop (mkF m pc Ls (.ref a :: rest))) := by
  obtain ⟨fs, hr, hrun, hended, hW, hsame⟩ := X.leave (v := some (.ref a)) (fun q => by rw [hret] at q; cases q) hlk
  exact ⟨_, _, retOut X hx hret hn (Or.inr (Or.inr (Or.inr (Or.inr ⟨rfl, ht, rfl⟩)))) hd hr, hrun, hended, _, _, rfl, hq, ⟨_, rfl⟩, hW, hsame.mono hc hs⟩
theorem own_retV (X : Stand p l e R s m args below meth c T locs cells slots) (hx : p.tables.exec = Jvm.exec) (hlk : meth.locks = false) (hret : meth.sig.returnType = none) {pc : Nat} {Ls : Array Slot} (hd : decode c.code pc = .ok (.return_, 1)) (hc : cells ≤ kc) (hs : slots ≤ ks) (hq : Q none T.heap locs) :
    own_Ends p e below s Q kc ks (T.setTop (mkF m pc Ls [])) := by
  obtain ⟨fs, hr, hrun, hended, hW, hsame⟩ := X.leave (v := none) (fun _ => rfl) hlk
  exact ⟨_, _, X.returnOut hx hret hd hr, hrun, hended, _, _, rfl, hq, ⟨_, rfl⟩, hW, hsame.mono hc hs⟩
/-! calls -/
theorem own_callS (X : Stand p l e R s m args below meth c T locs cells slots) (hx : p.tables.exec = Jvm.exec) (hZ : Z.Warmed39 s.vm) {own : String} {index : Nat} {y : MethodName} {bytes : ByteArray} {maxL : Nat} {ret : Option FieldType} {rm : Room} {as' : Array Value} {Qc : Option Value → Heap → List Loc → Prop}
    (hown : s.vm.findClass own = some m.cls) (w1 : (Jvm.Cond.methodLink own index y).before a0 Z = true) (w2 : (Jvm.Cond.static y).before a0 Z = true) (w3 : (Jvm.Cond.initialized y.cls).before a0 Z = true) (w4 : (Jvm.Cond.code y bytes maxL ret).before a0 Z = true)
    (hy : y.cls ≠ "java/lang/invoke/MethodHandle" ∧ y.cls ≠ "java/lang/invoke/VarHandle") (eT : T.heap = h)
    (hM : MetFree l y (head1 [Jvm.Cond.code y bytes maxL ret] rm) (fun a U => a = as' ∧ Z.Warmed39 U.vm ∧ U.heap = h) (fun _ _ _ _ _ => True) (fun _ U o U' => ∃ v L, o = .returned v ∧ Qc v U'.heap L ∧ FrameEnd U o U' L rm.cells rm.slots))
    (W : Nat) {g : JFrame} (argsL rest : List Value) (hdg : decode c.code g.pc = .ok (.invokestatic index, 3)) (hlen : ∀ sig, parseMethodDescriptor y.desc = some sig → argsL.length = sig.parameters.length)
    (hf : rm.frames + 1 ≤ R.frames) (hl : W + (maxL + 11) + rm.locals ≤ R.locals) (hc : cells + rm.cells ≤ R.cells) (hs : slots + rm.slots ≤ R.slots)
    (hg : g.method = m) (hsize : g.locals.size = c.maxLocals) (hstack : g.stack = argsL.reverse ++ rest) (hW : 2 * g.monitorRoom + (rest.map fun v => v.category).sum ≤ W) (has : argsL.toArray = as')
    (k : ∀ T' L v, Stand p l e R s m args below meth c T' (locs ++ L) (cells + rm.cells) (slots + rm.slots) → Qc v T'.heap L → own_Ends p e below s Q kc ks (T'.setTop { g with pc := g.pc + 3, stack := v.toList ++ rest })) :
    own_Ends p e below s Q kc ks (T.setTop g) := by
  subst has
  obtain ⟨v, _, ⟨T', L', c', n'⟩, -, X', ⟨L, hQ, l1, y1, z1⟩, st⟩ := Jvm.LawKit.callS X hx hown (mvT hZ w1) (mvT hZ w2) (mvT hZ w3) (mvT hZ w4) hy (backOf (W := W) hM hZ w4 w3 hf hl) hg hsize hlen hstack hW hdg (fun _ _ => ⟨rfl, eT, hc, hs⟩)
  dsimp only [Pt.U, Pt.locs, Pt.cells, Pt.slots] at X' l1 y1 z1 st hQ
  subst l1 y1 z1
  exact own_up st (k T' L v X' hQ)
theorem own_callI (X : Stand p l e R s m args below meth c T locs cells slots) (hx : p.tables.exec = Jvm.exec) (hZ : Z.Warmed39 s.vm) {own : String} {index : Nat} {y : MethodName} {bytes : ByteArray} {maxL : Nat} {rm : Room} {as' : Array Value} {Qc : Option Value → Heap → List Loc → Prop}
    (hy1 : y.name = "<init>") (hown : s.vm.findClass own = some m.cls) (w1 : (Jvm.Cond.methodLink own index y).before a0 Z = true) (w2 : (Jvm.Cond.instanceMethod y).before a0 Z = true) (w3 : (Jvm.Cond.initialized y.cls).before a0 Z = true) (w4 : (Jvm.Cond.code y bytes maxL none).before a0 Z = true)
    (hy : y.cls ≠ "java/lang/invoke/MethodHandle" ∧ y.cls ≠ "java/lang/invoke/VarHandle") (eT : T.heap = h)
    (hM : MetFree l y (head1 [Jvm.Cond.code y bytes maxL none] rm) (fun a U => a = as' ∧ Z.Warmed39 U.vm ∧ U.heap = h) (fun _ _ _ _ _ => True) (fun _ U o U' => ∃ v L, o = .returned v ∧ Qc v U'.heap L ∧ FrameEnd U o U' L rm.cells rm.slots))
    (W : Nat) {g : JFrame} (a : Addr) (argsL rest : List Value) (hdg : decode c.code g.pc = .ok (.invokespecial index, 3)) (hlen : ∀ sig, parseMethodDescriptor y.desc = some sig → argsL.length = sig.parameters.length)
    (hf : rm.frames + 1 ≤ R.frames) (hl : W + (maxL + 11) + rm.locals ≤ R.locals) (hc : cells + rm.cells ≤ R.cells) (hs : slots + rm.slots ≤ R.slots)
    (hg : g.method = m) (hsize : g.locals.size = c.maxLocals) (hstack : g.stack = argsL.reverse ++ .ref a :: rest) (hW : 2 * g.monitorRoom + (rest.map fun v => v.category).sum ≤ W) (has : (.ref a :: argsL).toArray = as')
    (k : ∀ T' L v, Stand p l e R s m args below meth c T' (locs ++ L) (cells + rm.cells) (slots + rm.slots) → Qc v T'.heap L → own_Ends p e below s Q kc ks (T'.setTop { g with pc := g.pc + 3, stack := v.toList ++ rest })) :
    own_Ends p e below s Q kc ks (T.setTop g) := by
  subst has
  obtain ⟨v, _, ⟨T', L', c', n'⟩, -, X', ⟨L, hQ, l1, y1, z1⟩, st⟩ := X.specialBack hx hy1 hown (mvT hZ w1) (mvT hZ w2) (mvT hZ w4) hy (backOf (W := W) hM hZ w4 w3 hf hl) hg hsize (Steps.refl _) hlen hstack hW hdg (fun _ _ => ⟨rfl, eT, hc, hs⟩)
  dsimp only [Pt.U, Pt.locs, Pt.cells, Pt.slots] at X' l1 y1 z1 st hQ
  subst l1 y1 z1
  exact own_up (fun t q => st.trans q) (k T' L v X' hQ)
theorem own_callV (X : Stand p l e R s m args below meth c T locs cells slots) (hx : p.tables.exec = Jvm.exec) (hZ : Z.Warmed39 s.vm) {own C : String} {index : Nat} {y : MethodName} {bytes : ByteArray} {maxL : Nat} {ret : Option FieldType} {rm : Room} {as' : Array Value} {Qc : Option Value → Heap → List Loc → Prop}
    (hown : s.vm.findClass own = some m.cls) (w1 : (Jvm.Cond.methodLink own index y).before a0 Z = true) (w2 : (Jvm.Cond.declares y).before a0 Z = true) (w5 : (Jvm.Cond.selects C y y).before a0 Z = true) (w6 : (Jvm.Cond.instanceMethod y).before a0 Z = true) (w3 : (Jvm.Cond.initialized y.cls).before a0 Z = true) (w4 : (Jvm.Cond.code y bytes maxL ret).before a0 Z = true)
    (hy : y.cls ≠ "java/lang/invoke/MethodHandle" ∧ y.cls ≠ "java/lang/invoke/VarHandle") (eT : T.heap = h)
    (hM : MetFree l y (head1 [Jvm.Cond.code y bytes maxL ret] rm) (fun a U => a = as' ∧ Z.Warmed39 U.vm ∧ U.heap = h) (fun _ _ _ _ _ => True) (fun _ U o U' => ∃ v L, o = .returned v ∧ Qc v U'.heap L ∧ FrameEnd U o U' L rm.cells rm.slots))
    (W : Nat) {g : JFrame} {a : Addr} (E : Exa Z h a C) (argsL rest : List Value) (hdg : decode c.code g.pc = .ok (.invokevirtual index, 3)) (hlen : ∀ sig, parseMethodDescriptor y.desc = some sig → argsL.length = sig.parameters.length)
    (hf : rm.frames + 1 ≤ R.frames) (hl : W + (maxL + 11) + rm.locals ≤ R.locals) (hc : cells + rm.cells ≤ R.cells) (hs : slots + rm.slots ≤ R.slots)
    (hg : g.method = m) (hsize : g.locals.size = c.maxLocals) (hstack : g.stack = argsL.reverse ++ .ref a :: rest) (hW : 2 * g.monitorRoom + (rest.map fun v => v.category).sum ≤ W) (has : (.ref a :: argsL).toArray = as')
    (k : ∀ T' L v, Stand p l e R s m args below meth c T' (locs ++ L) (cells + rm.cells) (slots + rm.slots) → Qc v T'.heap L → own_Ends p e below s Q kc ks (T'.setTop { g with pc := g.pc + 3, stack := v.toList ++ rest })) :
    own_Ends p e below s Q kc ks (T.setTop g) := by
  subst has
  obtain ⟨cq, kq, qa, qb, qc⟩ := isOf hZ eT E
  obtain ⟨v, _, ⟨T', L', c', n'⟩, -, X', ⟨L, hQ, l1, y1, z1⟩, st⟩ := X.virtualBack hx hown (mvT hZ w1) (mvT hZ w2) (notFace_of_selects (args := #[]) (mvT hZ w5)) (mvT hZ w5) (mvT hZ w6) hy (backOf (W := W) hM hZ w4 w3 hf hl) qa qc hg hsize (Steps.refl _) hlen hstack hW hdg (fun _ _ => ⟨rfl, eT, hc, hs⟩)
  dsimp only [Pt.U, Pt.locs, Pt.cells, Pt.slots] at X' l1 y1 z1 st hQ
  subst l1 y1 z1
  exact own_up (fun t q => st.trans q) (k T' L v X' hQ)
/-- the link names y in a class that inherits it from 'owner' -/
theorem own_callU (X : Stand p l e R s m args below meth c T locs cells slots) (hx : p.tables.exec = Jvm.exec) (hZ : Z.Warmed39 s.vm) {own C owner : String} {index : Nat} {x y : MethodName} {bytes : ByteArray} {maxL : Nat} {ret : Option FieldType} {rm : Room} {as' : Array Value} {Qc : Option Value → Heap → List Loc → Prop}
    (hown : s.vm.findClass own = some m.cls) (w1 : (Jvm.Cond.methodLink own index x).before a0 Z = true) (w7 : (Jvm.Cond.sameMethod x.cls owner x.name x.desc).before a0 Z = true) (w2 : (Jvm.Cond.declares ⟨owner, x.name, x.desc⟩).before a0 Z = true) (w5 : (Jvm.Cond.selects C x y).before a0 Z = true) (w6 : (Jvm.Cond.instanceMethod y).before a0 Z = true) (w3 : (Jvm.Cond.initialized y.cls).before a0 Z = true) (w4 : (Jvm.Cond.code y bytes maxL ret).before a0 Z = true)
    (hy : owner ≠ "java/lang/invoke/MethodHandle" ∧ owner ≠ "java/lang/invoke/VarHandle") (eT : T.heap = h)
    (hM : MetFree l y (head1 [Jvm.Cond.code y bytes maxL ret] rm) (fun a U => a = as' ∧ Z.Warmed39 U.vm ∧ U.heap = h) (fun _ _ _ _ _ => True) (fun _ U o U' => ∃ v L, o = .returned v ∧ Qc v U'.heap L ∧ FrameEnd U o U' L rm.cells rm.slots))
    (W : Nat) {g : JFrame} {a : Addr} (E : Exa Z h a C) (argsL rest : List Value) (hdg : decode c.code g.pc = .ok (.invokevirtual index, 3)) (hlen : ∀ sig, parseMethodDescriptor x.desc = some sig → argsL.length = sig.parameters.length)
    (hf : rm.frames + 1 ≤ R.frames) (hl : W + (maxL + 11) + rm.locals ≤ R.locals) (hc : cells + rm.cells ≤ R.cells) (hs : slots + rm.slots ≤ R.slots)
    (hg : g.method = m) (hsize : g.locals.size = c.maxLocals) (hstack : g.stack = argsL.reverse ++ .ref a :: rest) (hW : 2 * g.monitorRoom + (rest.map fun v => v.category).sum ≤ W) (has : (.ref a :: argsL).toArray = as')
    (k : ∀ T' L v, Stand p l e R s m args below meth c T' (locs ++ L) (cells + rm.cells) (slots + rm.slots) → Qc v T'.heap L → own_Ends p e below s Q kc ks (T'.setTop { g with pc := g.pc + 3, stack := v.toList ++ rest })) :
    own_Ends p e below s Q kc ks (T.setTop g) := by
  subst has
  obtain ⟨cq, kq, qa, qb, qc⟩ := isOf hZ eT E
  obtain ⟨v, _, ⟨T', L', c', n'⟩, -, X', ⟨L, hQ, l1, y1, z1⟩, st⟩ := X.virtualBackUp hx hown (mvT hZ w1) (mvT hZ w7) (mvT hZ w2) hy (mvT hZ w5) (mvT hZ w6) (backOf (W := W) hM hZ w4 w3 hf hl) qa qc hg hsize (Steps.refl _) hlen hstack hW hdg (fun _ _ => ⟨rfl, eT, hc, hs⟩)
  dsimp only [Pt.U, Pt.locs, Pt.cells, Pt.slots] at X' l1 y1 z1 st hQ
  subst l1 y1 z1
  exact own_up (fun t q => st.trans q) (k T' L v X' hQ)
theorem own_init (X : Stand p l e R s m args below meth c T locs cells slots) (hx : p.tables.exec = Jvm.exec) (hZ : Z.Warmed39 s.vm) {own : String} {idx : Nat} (hown : s.vm.findClass own = some m.cls) (w1 : (Jvm.Cond.methodLink own idx Lib.objectInit).before a0 Z = true) (w2 : (Jvm.Cond.instanceMethod Lib.objectInit).before a0 Z = true)
    (w3 : (Jvm.Cond.code Lib.objectInit ⟨#[0xb1]⟩ 1 none).before a0 Z = true) (eT : T.heap = h) (W : Nat) {g g' : JFrame} {a : Addr} {rest : List Value} (hd : decode c.code g.pc = .ok (.invokespecial idx, 3)) (hf : 1 ≤ R.frames) (hl : W + 12 ≤ R.locals)
    (hg : g.method = m) (hsize : g.locals.size = c.maxLocals) (hs : g.stack = .ref a :: rest) (hW : 2 * g.monitorRoom + (rest.map fun v => v.category).sum ≤ W) (hg' : { g with pc := g.pc + 3, stack := rest } = g')
    (k : ∀ T', Stand p l e R s m args below meth c T' locs cells slots → T'.heap = h → own_Ends p e below s Q kc ks (T'.setTop g')) : own_Ends p e below s Q kc ks (T.setTop g) := by
  subst hg'
  obtain ⟨T', X', e', st⟩ := initO X hx hZ hown w1 w2 w3 eT hg hsize hs hd hf hW hl
  exact own_up st (k T' X' e')
/-! the heap -/
theorem own_new (X : Stand p l e R s m args below meth c T locs cells slots) (hx : p.tables.exec = Jvm.exec) (hZ : Z.Warmed39 s.vm) {own C : String} {index n : Nat} (hown : s.vm.findClass own = some m.cls) (w : (Jvm.Cond.classLink own index C).before a0 Z = true) (wi : (Jvm.Cond.instantiable C n).before a0 Z = true) (wz : (Jvm.Cond.initialized C).before a0 Z = true) (eT : T.heap = h)
    {g : JFrame} (hg : g.method = m) (hd : decode c.code g.pc = .ok (.new index, 3)) (hc : cells + 1 ≤ R.cells) (hl : slots + n ≤ R.slots)
    (k : ∀ T' h' b, b = h.size → Stand p l e R s m args below meth c T' locs (cells + 1) (slots + n) → T'.heap = h' → Ext h h' → Exa Z h' b C → (∀ {O nm d : String} {ty : FieldType}, Laid Z a0 C O nm d → parseFieldDescriptor d = some ty → Fld Z h' b O nm d (defaultValue ty)) → own_Ends p e below s Q kc ks (T'.setTop { g with pc := g.pc + 3, stack := .ref b :: g.stack })) : own_Ends p e below s Q kc ks (T.setTop g) := by
  obtain ⟨T', h', X', e', E, A, D, -, st⟩ := newO X hx hZ hown w wi wz eT hg hd hc hl
  exact own_up st (k T' h' _ rfl X' e' E A D)
theorem own_get (X : Stand p l e R s m args below meth c T locs cells slots) (hx : p.tables.exec = Jvm.exec) (hZ : Z.Warmed39 s.vm) {own R0 O n d : String} {index : Nat} (hown : s.vm.findClass own = some m.cls) (w : (Jvm.Cond.fieldLink own index R0 n d).before a0 Z = true) (via : Via Z R0 O n d)
    (eT : T.heap = h) {a : Addr} {v : Value} (F : Fld Z h a O n d v) {g g' : JFrame} {rest : List Value} (hd : decode c.code g.pc = .ok (.getfield index, 3)) (hg : g.method = m) (hs : g.stack = .ref a :: rest) (hg' : { g with pc := g.pc + 3, stack := v :: rest } = g')
    (k : ∀ T', Stand p l e R s m args below meth c T' locs cells slots → T'.heap = h → own_Ends p e below s Q kc ks (T'.setTop g')) : own_Ends p e below s Q kc ks (T.setTop g) := by
  subst hg'
  obtain ⟨T', X', e', st⟩ := getF X hx hZ hown (host := "") (Or.inl w) via eT F hg hs hd
  exact own_up st (k T' X' e')
theorem own_gets (X : Stand p l e R s m args below meth c T locs cells slots) (hx : p.tables.exec = Jvm.exec) (hZ : Z.Warmed39 s.vm) {own R0 O n d : String} {index : Nat} (hown : s.vm.findClass own = some m.cls) (w : (Jvm.Cond.fieldLink own index R0 n d).before a0 Z = true) (via : Via Z R0 O n d)
    (eT : T.heap = h) {v : Value} (F : Sta Z h O n d v) {g g' : JFrame} (hd : decode c.code g.pc = .ok (.getstatic index, 3)) (hg : g.method = m) (hg' : { g with pc := g.pc + 3, stack := v :: g.stack } = g')
    (k : ∀ T', Stand p l e R s m args below meth c T' locs cells slots → T'.heap = h → own_Ends p e below s Q kc ks (T'.setTop g')) : own_Ends p e below s Q kc ks (T.setTop g) := by
  subst hg'
  obtain ⟨T', X', e', st⟩ := getS2 X hx hZ hown (host := "") (Or.inl w) via eT F hg hd
  exact own_up st (k T' X' e')
theorem own_put (X : Stand p l e R s m args below meth c T locs cells slots) (hx : p.tables.exec = Jvm.exec) (hZ : Z.Warmed39 s.vm) {own R0 O n d C : String} {index kk : Nat} (ty : FieldType) (hown : s.vm.findClass own = some m.cls) (w : (Jvm.Cond.fieldLink own index R0 n d).before a0 Z = true) (via : Via Z R0 O n d)
    (eT : T.heap = h) {a : Addr} {v v' old : Value} (F : Fld Z h a O n d old) (E : Exa Z h a C) (L : (Jvm.Cond.lays C O n d).before a0 Z = true ∨ ((Jvm.Cond.laysFinal C O n d).before a0 Z = true ∧ own = O ∧ meth.name = "<init>")) (wi : (Jvm.Cond.instantiable C kk).before a0 Z = true)
    (hty : parseFieldDescriptor d = some ty) (hn : narrow ty v = v') (hf : fits ty v' = true) {g g' : JFrame} {rest : List Value} (hd : decode c.code g.pc = .ok (.putfield index, 3)) (hg : g.method = m) (hs : g.stack = v :: .ref a :: rest) (hg' : { g with pc := g.pc + 3, stack := rest } = g')
    (k : ∀ T' h', Stand p l e R s m args below meth c T' (locs ++ [⟨a, Jvm.RoadKit.slotOf Z O n d⟩]) cells slots → T'.heap = h' → Wr h h' a (Jvm.RoadKit.slotOf Z O n d) v' → own_Ends p e below s Q kc ks (T'.setTop g')) : own_Ends p e below s Q kc ks (T.setTop g) := by
  subst hg'
  obtain ⟨T', h', X', e', W, st⟩ := putFN X hx hZ hown w via eT F E L wi hty hn hf hg hs hd
  exact own_up st (k T' h' X' e' W)
theorem own_fr {k : Nat} {L : List Loc} {a : Addr} {sl : Nat} (N : Fr k L) (q : k ≤ a) : Fr k (L ++ [⟨a, sl⟩]) := N.app fun y hy => by cases List.mem_singleton.mp hy; exact q
/-! arrays: the list of the values -/
def own_Al (Z : State) (h : Heap) (a : Addr) (ty : FieldType) (vs : List Value) : Prop := ∃ c : Cell, Arr Z h a c ty ∧ c.slots.toList = vs ∧ vs.length < 2 ^ 31
theorem own_Al_lt {h : Heap} {a : Addr} {ty : FieldType} {vs : List Value} (A : own_Al Z h a ty vs) : a < h.size := by obtain ⟨c, A, -⟩ := A; exact A.lt
theorem own_Al_ext {h h' : Heap} {a : Addr} {ty : FieldType} {vs : List Value} (E : Ext h h') (A : own_Al Z h a ty vs) : own_Al Z h' a ty vs := by obtain ⟨c, A, r⟩ := A; exact ⟨c, A.ext E, r⟩
theorem own_Al_oth {h h' : Heap} {a b : Addr} {sl : Nat} {v : Value} {ty : FieldType} {vs : List Value} (W : Wr h h' b sl v) (A : own_Al Z h a ty vs) (ne : a ≠ b) : own_Al Z h' a ty vs := by obtain ⟨c, A, r⟩ := A; exact ⟨c, A.other W ne, r⟩
theorem own_Al_keep {h h' : Heap} {a : Addr} {ws : List Addr} {ty : FieldType} {vs : List Value} (K : Keep h h' ws) (A : own_Al Z h a ty vs) (ne : a ∉ ws) : own_Al Z h' a ty vs := by obtain ⟨c, A, r⟩ := A; exact ⟨c, ⟨K.2.1 a c A.1 ne, A.2⟩, r⟩
theorem own_nat {j : Int32} {i : Nat} (hj : j.toInt = i) : ¬ j < 0 ∧ j.toNatClampNeg = i := by
  have h0 : ¬ j < 0 := by rw [Int32.lt_iff_toInt_lt, hj]; have : (0 : Int32).toInt = 0 := rfl; omega
  refine ⟨h0, ?_⟩
  have := nat_of h0
  omega
theorem own_newa (X : Stand p l e R s m args below meth c T locs cells slots) (hx : p.tables.exec = Jvm.exec) (hZ : Z.Warmed39 s.vm) {aty : ArrayType} {ty : FieldType} (hty : newarray.typeOf aty = ty) (w : (Jvm.Cond.arrayClass ty).before a0 Z = true) (eT : T.heap = h) {g : JFrame} {z : Int32} (nn : Nat) {rest : List Value} (hd : decode c.code g.pc = .ok (.newarray aty, 2)) (hn : z.toInt = nn) (cap : Nat) (hcap : nn ≤ cap) (hb : cap * 8 ≤ 536870912) (hc : cells + 1 ≤ R.cells) (hl : slots + cap ≤ R.slots)
    (hg : g.method = m) (hs : g.stack = .int z :: rest)
    (k : ∀ T' h' b, b = h.size → Stand p l e R s m args below meth c T' locs (cells + 1) (slots + cap) → T'.heap = h' → Ext h h' → own_Al Z h' b ty (List.replicate nn (defaultValue ty)) → own_Ends p e below s Q kc ks (T'.setTop { g with pc := g.pc + 2, stack := .ref b :: rest })) : own_Ends p e below s Q kc ks (T.setTop g) := by
  subst hty
  obtain ⟨h0, h1⟩ := own_nat hn
  obtain ⟨T', h', cA, X', e', E, A, st⟩ := newP X hx hZ w eT hg hd hs h0 (cap := cap) (by omega) hb hc hl
  exact own_up st (k T' h' _ rfl X' e' E ⟨_, A, by simp [newA, h1], by simp; omega⟩)
theorem own_in {ty : FieldType} {vs : List Value} {cl : Cell} {j : Int32} {i : Nat} (hv : cl.slots.toList = vs) (hj : j.toInt = i) (hi : i < vs.length) : ¬ (j < 0 ∨ cl.slots.size ≤ j.toNatClampNeg) := by
  obtain ⟨h0, h1⟩ := own_nat hj
  subst hv
  rintro (q | q)
  · exact h0 q
  · rw [h1] at q; simp at hi; omega
theorem own_Al_set {h h' : Heap} {a : Addr} {cl : Cell} {ty : FieldType} {vs : List Value} {j : Int32} {i : Nat} {v : Value} (A : Arr Z h a cl ty) (hv : cl.slots.toList = vs) (hl : vs.length < 2 ^ 31) (hj : j.toInt = i) (W : Wr h h' a j.toNatClampNeg v) : own_Al Z h' a ty (vs.set i v) := by
  obtain ⟨h0, h1⟩ := own_nat hj
  rw [h1] at W
  exact ⟨_, A.same W, by simp [Cell.setSlot, hv], by simpa using hl⟩
theorem own_sti (X : Stand p l e R s m args below meth c T locs cells slots) (hx : p.tables.exec = Jvm.exec) (hZ : Z.Warmed39 s.vm) (eT : T.heap = h) {a : Addr} {vs : List Value} (A : own_Al Z h a .int vs) {j x : Int32} (i : Nat) {g g' : JFrame} {rest : List Value} (hd : decode c.code g.pc = .ok (.iastore, 1)) (hj : j.toInt = i) (hi : i < vs.length) (hg : g.method = m) (hs : g.stack = .int x :: .int j :: .ref a :: rest) (hg' : { g with pc := g.pc + 1, stack := rest } = g')
    (k : ∀ T' h', Stand p l e R s m args below meth c T' (locs ++ [⟨a, j.toNatClampNeg⟩]) cells slots → T'.heap = h' → Wr h h' a j.toNatClampNeg (.int x) → own_Al Z h' a .int (vs.set i (.int x)) → own_Ends p e below s Q kc ks (T'.setTop g')) : own_Ends p e below s Q kc ks (T.setTop g) := by
  subst hg'
  obtain ⟨cl, A, hv, hl⟩ := A
  obtain ⟨T', h', X', e', W, st⟩ := stI X hx hZ eT A (own_in (ty := .int) hv hj hi) hg hs hd
  exact own_up st (k T' h' X' e' W (own_Al_set A hv hl hj W))
theorem own_stj (X : Stand p l e R s m args below meth c T locs cells slots) (hx : p.tables.exec = Jvm.exec) (hZ : Z.Warmed39 s.vm) (eT : T.heap = h) {a : Addr} {vs : List Value} (A : own_Al Z h a .long vs) {j : Int32} {x : Int64} (i : Nat) {g g' : JFrame} {rest : List Value} (hd : decode c.code g.pc = .ok (.lastore, 1)) (hj : j.toInt = i) (hi : i < vs.length) (hg : g.method = m) (hs : g.stack = .long x :: .int j :: .ref a :: rest) (hg' : { g with pc := g.pc + 1, stack := rest } = g')
    (k : ∀ T' h', Stand p l e R s m args below meth c T' (locs ++ [⟨a, j.toNatClampNeg⟩]) cells slots → T'.heap = h' → Wr h h' a j.toNatClampNeg (.long x) → own_Al Z h' a .long (vs.set i (.long x)) → own_Ends p e below s Q kc ks (T'.setTop g')) : own_Ends p e below s Q kc ks (T.setTop g) := by
  subst hg'
  obtain ⟨cl, A, hv, hl⟩ := A
  obtain ⟨T', h', X', e', W, st⟩ := stJ X hx hZ eT A (own_in (ty := .long) hv hj hi) hg hs hd
  exact own_up st (k T' h' X' e' W (own_Al_set A hv hl hj W))
theorem own_stb (X : Stand p l e R s m args below meth c T locs cells slots) (hx : p.tables.exec = Jvm.exec) (hZ : Z.Warmed39 s.vm) (eT : T.heap = h) {a : Addr} {vs : List Value} (A : own_Al Z h a .byte vs) {j x : Int32} (i : Nat) {g g' : JFrame} {rest : List Value} (hd : decode c.code g.pc = .ok (.bastore, 1)) (hj : j.toInt = i) (hi : i < vs.length) (hg : g.method = m) (hs : g.stack = .int x :: .int j :: .ref a :: rest) (hg' : { g with pc := g.pc + 1, stack := rest } = g')
    (k : ∀ T' h', Stand p l e R s m args below meth c T' (locs ++ [⟨a, j.toNatClampNeg⟩]) cells slots → T'.heap = h' → Wr h h' a j.toNatClampNeg (.int (nar .byte x)) → own_Al Z h' a .byte (vs.set i (.int (nar .byte x))) → own_Ends p e below s Q kc ks (T'.setTop g')) : own_Ends p e below s Q kc ks (T.setTop g) := by
  subst hg'
  obtain ⟨cl, A, hv, hl⟩ := A
  obtain ⟨T', h', X', e', W, st⟩ := stB X hx hZ eT A (own_in (ty := .byte) hv hj hi) hg hs hd
  exact own_up st (k T' h' X' e' W (own_Al_set A hv hl hj W))
theorem own_at {vs : List Value} {cl : Cell} {j : Int32} {i : Nat} {v : Value} (hv : cl.slots.toList = vs) (hj : j.toInt = i) (hi : vs[i]? = some v) : cl.slots[j.toNatClampNeg]? = some v := by
  rw [(own_nat hj).2, ← Array.getElem?_toList, hv]; exact hi
theorem own_ldi (X : Stand p l e R s m args below meth c T locs cells slots) (hx : p.tables.exec = Jvm.exec) (hZ : Z.Warmed39 s.vm) (eT : T.heap = h) {a : Addr} {vs : List Value} (A : own_Al Z h a .int vs) {j : Int32} {v : Value} (i : Nat) {g g' : JFrame} {rest : List Value} (hd : decode c.code g.pc = .ok (.iaload, 1)) (hj : j.toInt = i) (hi : vs[i]? = some v) (hg : g.method = m) (hs : g.stack = .int j :: .ref a :: rest) (hg' : { g with pc := g.pc + 1, stack := v :: rest } = g')
    (k : own_Ends p e below s Q kc ks (T.setTop g')) : own_Ends p e below s Q kc ks (T.setTop g) := by
  subst hg'
  obtain ⟨cl, A, hv, hl⟩ := A
  exact own_up (fun t => X.iaload hx (by rw [eT]; exact A.1) (State.isArrayOf_alike hZ.alike A.2.1) A.2.2 (own_in (ty := .int) hv hj (List.getElem?_eq_some_iff.mp hi).1) (own_at hv hj hi) hg hs hd t) k
theorem own_ldj (X : Stand p l e R s m args below meth c T locs cells slots) (hx : p.tables.exec = Jvm.exec) (hZ : Z.Warmed39 s.vm) (eT : T.heap = h) {a : Addr} {vs : List Value} (A : own_Al Z h a .long vs) {j : Int32} {v : Value} (i : Nat) {g g' : JFrame} {rest : List Value} (hd : decode c.code g.pc = .ok (.laload, 1)) (hj : j.toInt = i) (hi : vs[i]? = some v) (hg : g.method = m) (hs : g.stack = .int j :: .ref a :: rest) (hg' : { g with pc := g.pc + 1, stack := v :: rest } = g')
    (k : own_Ends p e below s Q kc ks (T.setTop g')) : own_Ends p e below s Q kc ks (T.setTop g) := by
  subst hg'
  obtain ⟨cl, A, hv, hl⟩ := A
  exact own_up (fun t => X.laload hx (by rw [eT]; exact A.1) (State.isArrayOf_alike hZ.alike A.2.1) A.2.2 (own_in (ty := .long) hv hj (List.getElem?_eq_some_iff.mp hi).1) (own_at hv hj hi) hg hs hd t) k
theorem own_ldb (X : Stand p l e R s m args below meth c T locs cells slots) (hx : p.tables.exec = Jvm.exec) (hZ : Z.Warmed39 s.vm) (eT : T.heap = h) {a : Addr} {vs : List Value} (A : own_Al Z h a .byte vs) {j : Int32} {v : Value} (i : Nat) {g g' : JFrame} {rest : List Value} (hd : decode c.code g.pc = .ok (.baload, 1)) (hj : j.toInt = i) (hi : vs[i]? = some v) (hg : g.method = m) (hs : g.stack = .int j :: .ref a :: rest) (hg' : { g with pc := g.pc + 1, stack := v :: rest } = g')
    (k : own_Ends p e below s Q kc ks (T.setTop g')) : own_Ends p e below s Q kc ks (T.setTop g) := by
  subst hg'
  obtain ⟨cl, A, hv, hl⟩ := A
  exact own_up (fun t => X.baloadBytes hx (by rw [eT]; exact A.1) (State.isArrayOf_alike hZ.alike A.2.1) A.2.2 (own_in (ty := .byte) hv hj (List.getElem?_eq_some_iff.mp hi).1) (own_at hv hj hi) hg hs hd t) k
theorem own_len (X : Stand p l e R s m args below meth c T locs cells slots) (hx : p.tables.exec = Jvm.exec) (hZ : Z.Warmed39 s.vm) (eT : T.heap = h) {a : Addr} {ty : FieldType} {vs : List Value} (A : own_Al Z h a ty vs) {g g' : JFrame} {rest : List Value} (z : Int32) (hd : decode c.code g.pc = .ok (.arraylength, 1)) (hz : z.toInt = vs.length) (hg : g.method = m) (hs : g.stack = .ref a :: rest) (hg' : { g with pc := g.pc + 1, stack := .int z :: rest } = g')
    (k : own_Ends p e below s Q kc ks (T.setTop g')) : own_Ends p e below s Q kc ks (T.setTop g) := by
  subst hg'
  obtain ⟨cl, A, hv, hl⟩ := A
  have q : cl.slots.size.toInt32 = z := by
    apply Int32.toInt_inj.mp
    have h2 : cl.slots.size = vs.length := by rw [← hv]; simp
    rw [hz, h2, len_toInt hl]
  exact own_up (fun t => X.arraylength hx (by rw [eT]; exact A.1) (State.isArrayOf_alike hZ.alike A.2.1) hg hs hd t) (by rw [q]; exact k)
end Own
theorem own_n3 (x : Int32) : ((1 : Int32) + ((x &&& (3 : Int32)) % (3 : Int32))) = 1 ∨ ((1 : Int32) + ((x &&& (3 : Int32)) % (3 : Int32))) = 2 ∨ ((1 : Int32) + ((x &&& (3 : Int32)) % (3 : Int32))) = 3 := by
  have h1 : (x &&& (3 : Int32)).toInt = x.toInt % 4 := c_mask x (3 : Int32) 2 (by decide) (by decide)
  have h2 := (c_irem (x &&& (3 : Int32)) (3 : Int32) 3 rfl).1 (by omega)
  have h3 := c_iadd (1 : Int32) ((x &&& (3 : Int32)) % (3 : Int32))
  have r := rng32 ((1 : Int32) + ((x &&& (3 : Int32)) % (3 : Int32)))
  have z1 : (1 : Int32).toInt = 1 := rfl
  have z2 : (2 : Int32).toInt = 2 := rfl
  have z3 : (3 : Int32).toInt = 3 := rfl
  simp only [← Int32.toInt_inj]
  omega
theorem own_pd0 : parseMethodDescriptor "([I[I)V" = some ⟨[(.array .int), (.array .int)], none⟩ := by decide +kernel
theorem own_pd1 : parseMethodDescriptor "(I)Z" = some ⟨[.int], some .boolean⟩ := by decide +kernel
theorem own_pd2 : parseMethodDescriptor "(II)I" = some ⟨[.int, .int], some .int⟩ := by decide +kernel
theorem d1_0 : decode prog_40_method_1_code 0 = .ok (.aload_n 0, 1) := by decide +kernel
theorem d1_1 : decode prog_40_method_1_code 1 = .ok (.invokespecial 1, 3) := by decide +kernel
theorem d1_4 : decode prog_40_method_1_code 4 = .ok (.aload_n 0, 1) := by decide +kernel
theorem d1_5 : decode prog_40_method_1_code 5 = .ok (.aload_n 1, 1) := by decide +kernel
theorem d1_6 : decode prog_40_method_1_code 6 = .ok (.putfield 7, 3) := by decide +kernel
theorem d1_9 : decode prog_40_method_1_code 9 = .ok (.aload_n 0, 1) := by decide +kernel
theorem d1_10 : decode prog_40_method_1_code 10 = .ok (.aload_n 2, 1) := by decide +kernel
theorem d1_11 : decode prog_40_method_1_code 11 = .ok (.putfield 13, 3) := by decide +kernel
theorem d1_14 : decode prog_40_method_1_code 14 = .ok (.return_, 1) := by decide +kernel
def own_R1 : Room := { frames := 1, cells := 0, slots := 0, locals := 12 }
theorem own_ef1 (oo : Addr) (p1 : Addr) (p2 : Addr) (m : MethodId) : entryFrame m #[(.ref oo), (.ref p1), (.ref p2)] 3 = mkF m 0 #[.val (.ref oo), .val (.ref p1), .val (.ref p2)] [] := by first | (simp [entryFrame, mkF, argsToLocals, Value.category]; done) | rfl
def own_Q1 (Z : State) (oo : Addr) (p1 : Addr) (p2 : Addr)  (h0 : Heap) (n0 : Nat) (v : Option Value) (h : Heap) (L : List Loc) : Prop := v = none ∧ Fr n0 L ∧ Keep h0 h [oo] ∧ Fld Z h oo "com/example/kinglet/kinglet/index/Occurrences" "fields" "[I" (.ref p1) ∧ Fld Z h oo "com/example/kinglet/kinglet/index/Occurrences" "positions" "[I" (.ref p2)
set_option maxRecDepth 65536 in
set_option maxHeartbeats 40000000 in
theorem rm1 (l : Launch) (Z : State) (a0 : Array Value) (hw : ∀ d ∈ tables_1, d.before a0 Z = true) (ws : List Jvm.Cond) (oo : Addr) (p1 : Addr) (p2 : Addr)  (h0 : Heap) (n0 : Nat) (Z0 : n0 ≤ h0.size) (Ff0 : Fld Z h0 oo "com/example/kinglet/kinglet/index/Occurrences" "fields" "[I" .null) (Fp0 : Fld Z h0 oo "com/example/kinglet/kinglet/index/Occurrences" "positions" "[I" .null) (Et : Exa Z h0 oo "com/example/kinglet/kinglet/index/Occurrences") (gt : n0 ≤ oo) :
    MetFree l (⟨"com/example/kinglet/kinglet/index/Occurrences", "<init>", "([I[I)V"⟩ : MethodName) (head1 (Jvm.Cond.code (⟨"com/example/kinglet/kinglet/index/Occurrences", "<init>", "([I[I)V"⟩ : MethodName) prog_40_method_1_code 3 none :: ws) own_R1) (fun a U => a = #[(.ref oo), (.ref p1), (.ref p2)] ∧ Z.Warmed39 U.vm ∧ U.heap = h0) (fun _ _ _ _ _ => True) (fun _ U o U' => ∃ v L, o = .returned v ∧ own_Q1 Z oo p1 p2 h0 n0 v U'.heap L ∧ FrameEnd U o U' L own_R1.cells own_R1.slots) := by
  refine own_met (Q := own_Q1 Z oo p1 p2 h0 n0) (plainFor_of_name (by first | (simp [plainName, overriddenIn]; done) | decide +kernel)) (own_ef1 oo p1 p2) ?_
  intro p e s m below meth c T0 hx hby hml hown hnm hret hlk hZ e0 X0
  have N0 := Fr.nil n0
  refine own_up (S' := T0.setTop (mkF m 1 #[.val (.ref oo), .val (.ref p1), .val (.ref p2)] [(.ref oo)])) (fun t stp => XS.aloadN X0.here hx rfl (hb hby d1_0) rfl rfl stp) ?_
  refine own_init X0 hx hZ hown (hw _ (List.mem_of_getElem? (i := 7) rfl)) (hw _ (List.mem_of_getElem? (i := 8) rfl)) (hw _ (List.mem_of_getElem? (i := 9) rfl)) e0 0 (g' := (mkF m 4 #[.val (.ref oo), .val (.ref p1), .val (.ref p2)] [])) (hb hby d1_1) (by decide) (by decide) rfl (by rw [hml]; rfl) rfl (by show 2 * 0 + _ ≤ _; exact Nat.le_of_eq rfl) rfl ?_
  intro T1 X1 e1
  refine own_up (S' := T1.setTop (mkF m 5 #[.val (.ref oo), .val (.ref p1), .val (.ref p2)] [(.ref oo)])) (fun t stp => XS.aloadN X1.here hx rfl (hb hby d1_4) rfl rfl stp) ?_
  refine own_up (S' := T1.setTop (mkF m 6 #[.val (.ref oo), .val (.ref p1), .val (.ref p2)] [(.ref p1), (.ref oo)])) (fun t stp => XS.aloadN X1.here hx rfl (hb hby d1_5) rfl rfl stp) ?_
  refine own_put X1 hx hZ (.array .int) hown (hw _ (List.mem_of_getElem? (i := 10) rfl)) Via.refl e1 Ff0 Et (Or.inr ⟨(hw _ (List.mem_of_getElem? (i := 11) rfl)), rfl, hnm⟩) (hw _ (List.mem_of_getElem? (i := 2) rfl)) (by decide) (v' := (.ref p1)) (rfl) (rfl) (g' := (mkF m 9 #[.val (.ref oo), .val (.ref p1), .val (.ref p2)] [])) (hb hby d1_6) rfl rfl rfl ?_
  intro T2 h2 X2 e2 W2
  have Zn3 := Nat.le_trans Z0 (Nat.le_of_eq W2.size.symm)
  have Fp0_4 := Fp0.other W2 (Or.inr (slot_ne (Or.inr (hw _ (List.mem_of_getElem? (i := 13) rfl))) (Or.inr (hw _ (List.mem_of_getElem? (i := 11) rfl))) (by decide) (t := (.array .int)) (t' := (.array .int)) (by decide) (by decide)))
  have Et_4 := Et.wr W2
  have Kp5 := (Keep.refl h0 [oo]).wr W2 (Or.inl (List.mem_of_getElem? (i := 0) rfl))
  have N2 := Fr.snoc X2 N0 gt
  have Ffields_2 := Ff0.same W2
  refine own_up (S' := T2.setTop (mkF m 10 #[.val (.ref oo), .val (.ref p1), .val (.ref p2)] [(.ref oo)])) (fun t stp => XS.aloadN X2.here hx rfl (hb hby d1_9) rfl rfl stp) ?_
  refine own_up (S' := T2.setTop (mkF m 11 #[.val (.ref oo), .val (.ref p1), .val (.ref p2)] [(.ref p2), (.ref oo)])) (fun t stp => XS.aloadN X2.here hx rfl (hb hby d1_10) rfl rfl stp) ?_
  refine own_put X2 hx hZ (.array .int) hown (hw _ (List.mem_of_getElem? (i := 12) rfl)) Via.refl e2 Fp0_4 Et_4 (Or.inr ⟨(hw _ (List.mem_of_getElem? (i := 13) rfl)), rfl, hnm⟩) (hw _ (List.mem_of_getElem? (i := 2) rfl)) (by decide) (v' := (.ref p2)) (rfl) (rfl) (g' := (mkF m 14 #[.val (.ref oo), .val (.ref p1), .val (.ref p2)] [])) (hb hby d1_11) rfl rfl rfl ?_
  intro T6 h6 X6 e6 W6
  have Zn7 := Nat.le_trans Zn3 (Nat.le_of_eq W6.size.symm)
  have Ffields_8 := Ffields_2.other W6 (Or.inr (slot_ne (Or.inr (hw _ (List.mem_of_getElem? (i := 11) rfl))) (Or.inr (hw _ (List.mem_of_getElem? (i := 13) rfl))) (by decide) (t := (.array .int)) (t' := (.array .int)) (by decide) (by decide)))
  have Et_8 := Et_4.wr W6
  have Kp9 := Kp5.wr W6 (Or.inl (List.mem_of_getElem? (i := 0) rfl))
  have N6 := Fr.snoc X6 N2 gt
  have Fpositions_6 := Fp0_4.same W6
  refine own_retV X6 hx hlk hret (hb hby d1_14) (by decide) (by decide) ?_
  show own_Q1 Z oo p1 p2 h0 n0 _ T6.heap _
  rw [e6]
  exact ⟨rfl, N6, Kp9, Ffields_8, Fpositions_6⟩
theorem d2_0 : decode jdk_29_method_69_code 0 = .ok (.iload_n 0, 1) := by decide +kernel
theorem d2_1 : decode jdk_29_method_69_code 1 = .ok (.iload_n 1, 1) := by decide +kernel
theorem d2_2 : decode jdk_29_method_69_code 2 = .ok (.if_icmp .gt 7, 3) := by decide +kernel
theorem d2_5 : decode jdk_29_method_69_code 5 = .ok (.iload_n 0, 1) := by decide +kernel
theorem d2_6 : decode jdk_29_method_69_code 6 = .ok (.goto 4, 3) := by decide +kernel
theorem d2_9 : decode jdk_29_method_69_code 9 = .ok (.iload_n 1, 1) := by decide +kernel
theorem d2_10 : decode jdk_29_method_69_code 10 = .ok (.ireturn, 1) := by decide +kernel
def own_R2 : Room := { frames := 0, cells := 0, slots := 0, locals := 0 }
theorem own_ef2 (p0 : Int32) (p1 : Int32) (m : MethodId) : entryFrame m #[(.int p0), (.int p1)] 2 = mkF m 0 #[.val (.int p0), .val (.int p1)] [] := by first | (simp [entryFrame, mkF, argsToLocals, Value.category]; done) | rfl
def own_Q2 (Z : State) (p0 : Int32) (p1 : Int32)  (h0 : Heap) (n0 : Nat) (v : Option Value) (h : Heap) (L : List Loc) : Prop := ∃ r : Int32, v = some (.int r) ∧ (True) ∧ Fr n0 L ∧ h = h0
set_option maxRecDepth 65536 in
set_option maxHeartbeats 40000000 in
theorem rm2 (l : Launch) (Z : State) (a0 : Array Value) (hw : ∀ d ∈ tables_1, d.before a0 Z = true) (ws : List Jvm.Cond) (p0 : Int32) (p1 : Int32)  (h0 : Heap) (n0 : Nat) (Z0 : n0 ≤ h0.size)  :
    MetFree l (⟨"java/lang/Math", "min", "(II)I"⟩ : MethodName) (head1 (Jvm.Cond.code (⟨"java/lang/Math", "min", "(II)I"⟩ : MethodName) jdk_29_method_69_code 2 (some .int) :: ws) own_R2) (fun a U => a = #[(.int p0), (.int p1)] ∧ Z.Warmed39 U.vm ∧ U.heap = h0) (fun _ _ _ _ _ => True) (fun _ U o U' => ∃ v L, o = .returned v ∧ own_Q2 Z p0 p1 h0 n0 v U'.heap L ∧ FrameEnd U o U' L own_R2.cells own_R2.slots) := by
  refine own_met (Q := own_Q2 Z p0 p1 h0 n0) (by decide +kernel) (own_ef2 p0 p1) ?_
  intro p e s m below meth c T0 hx hby hml hown hnm hret hlk hZ e0 X0
  have N0 := Fr.nil n0
  refine own_up (S' := T0.setTop (mkF m 1 #[.val (.int p0), .val (.int p1)] [(.int p0)])) (fun t stp => XS.iloadN X0.here hx rfl (hb hby d2_0) rfl stp) ?_
  refine own_up (S' := T0.setTop (mkF m 2 #[.val (.int p0), .val (.int p1)] [(.int p1), (.int p0)])) (fun t stp => XS.iloadN X0.here hx rfl (hb hby d2_1) rfl stp) ?_
  by_cases hc2_1 : p1 < p0
  · have ihc2_1 : p1.toInt < p0.toInt := own_ilt hc2_1
    refine own_up (S' := T0.setTop (mkF m 9 #[.val (.int p0), .val (.int p1)] [])) (fun t stp => XS.icmpYes X0.here hx rfl (pc0 := 2) (pc' := 9) rfl (hb hby d2_2) rfl (XT.ii_gt_t hc2_1) (by decide) (by decide) stp) ?_
    refine own_up (S' := T0.setTop (mkF m 10 #[.val (.int p0), .val (.int p1)] [(.int p1)])) (fun t stp => XS.iloadN X0.here hx rfl (hb hby d2_9) rfl stp) ?_
    refine own_retI X0 hx hlk hret (hb hby d2_10) (by decide) (by decide) ?_
    show own_Q2 Z p0 p1 h0 n0 _ T0.heap _
    rw [e0]
    exact ⟨p1, rfl, trivial, N0, rfl⟩
  · have ihc2_1 : p0.toInt ≤ p1.toInt := own_inl hc2_1
    refine own_up (S' := T0.setTop (mkF m 5 #[.val (.int p0), .val (.int p1)] [])) (fun t stp => XS.icmpNo X0.here hx rfl (hb hby d2_2) rfl (XT.ii_gt_f hc2_1) stp) ?_
    refine own_up (S' := T0.setTop (mkF m 6 #[.val (.int p0), .val (.int p1)] [(.int p0)])) (fun t stp => XS.iloadN X0.here hx rfl (hb hby d2_5) rfl stp) ?_
    refine own_up (S' := T0.setTop (mkF m 10 #[.val (.int p0), .val (.int p1)] [(.int p0)])) (fun t stp => XS.goto X0.here hx rfl (pc0 := 6) (pc' := 10) rfl (hb hby d2_6) (by decide) (by decide) stp) ?_
    refine own_retI X0 hx hlk hret (hb hby d2_10) (by decide) (by decide) ?_
    show own_Q2 Z p0 p1 h0 n0 _ T0.heap _
    rw [e0]
    exact ⟨p0, rfl, trivial, N0, rfl⟩
theorem d3_0 : decode jdk_29_method_65_code 0 = .ok (.iload_n 0, 1) := by decide +kernel
theorem d3_1 : decode jdk_29_method_65_code 1 = .ok (.iload_n 1, 1) := by decide +kernel
theorem d3_2 : decode jdk_29_method_65_code 2 = .ok (.if_icmp .lt 7, 3) := by decide +kernel
theorem d3_5 : decode jdk_29_method_65_code 5 = .ok (.iload_n 0, 1) := by decide +kernel
theorem d3_6 : decode jdk_29_method_65_code 6 = .ok (.goto 4, 3) := by decide +kernel
theorem d3_9 : decode jdk_29_method_65_code 9 = .ok (.iload_n 1, 1) := by decide +kernel
theorem d3_10 : decode jdk_29_method_65_code 10 = .ok (.ireturn, 1) := by decide +kernel
def own_R3 : Room := { frames := 0, cells := 0, slots := 0, locals := 0 }
theorem own_ef3 (p0 : Int32) (p1 : Int32) (m : MethodId) : entryFrame m #[(.int p0), (.int p1)] 2 = mkF m 0 #[.val (.int p0), .val (.int p1)] [] := by first | (simp [entryFrame, mkF, argsToLocals, Value.category]; done) | rfl
def own_Q3 (Z : State) (p0 : Int32) (p1 : Int32)  (h0 : Heap) (n0 : Nat) (v : Option Value) (h : Heap) (L : List Loc) : Prop := ∃ r : Int32, v = some (.int r) ∧ (True) ∧ Fr n0 L ∧ h = h0
set_option maxRecDepth 65536 in
set_option maxHeartbeats 40000000 in
theorem rm3 (l : Launch) (Z : State) (a0 : Array Value) (hw : ∀ d ∈ tables_1, d.before a0 Z = true) (ws : List Jvm.Cond) (p0 : Int32) (p1 : Int32)  (h0 : Heap) (n0 : Nat) (Z0 : n0 ≤ h0.size)  :
    MetFree l (⟨"java/lang/Math", "max", "(II)I"⟩ : MethodName) (head1 (Jvm.Cond.code (⟨"java/lang/Math", "max", "(II)I"⟩ : MethodName) jdk_29_method_65_code 2 (some .int) :: ws) own_R3) (fun a U => a = #[(.int p0), (.int p1)] ∧ Z.Warmed39 U.vm ∧ U.heap = h0) (fun _ _ _ _ _ => True) (fun _ U o U' => ∃ v L, o = .returned v ∧ own_Q3 Z p0 p1 h0 n0 v U'.heap L ∧ FrameEnd U o U' L own_R3.cells own_R3.slots) := by
  refine own_met (Q := own_Q3 Z p0 p1 h0 n0) (by decide +kernel) (own_ef3 p0 p1) ?_
  intro p e s m below meth c T0 hx hby hml hown hnm hret hlk hZ e0 X0
  have N0 := Fr.nil n0
  refine own_up (S' := T0.setTop (mkF m 1 #[.val (.int p0), .val (.int p1)] [(.int p0)])) (fun t stp => XS.iloadN X0.here hx rfl (hb hby d3_0) rfl stp) ?_
  refine own_up (S' := T0.setTop (mkF m 2 #[.val (.int p0), .val (.int p1)] [(.int p1), (.int p0)])) (fun t stp => XS.iloadN X0.here hx rfl (hb hby d3_1) rfl stp) ?_
  by_cases hc2_1 : p0 < p1
  · have ihc2_1 : p0.toInt < p1.toInt := own_ilt hc2_1
    refine own_up (S' := T0.setTop (mkF m 9 #[.val (.int p0), .val (.int p1)] [])) (fun t stp => XS.icmpYes X0.here hx rfl (pc0 := 2) (pc' := 9) rfl (hb hby d3_2) rfl (XT.ii_lt_t hc2_1) (by decide) (by decide) stp) ?_
    refine own_up (S' := T0.setTop (mkF m 10 #[.val (.int p0), .val (.int p1)] [(.int p1)])) (fun t stp => XS.iloadN X0.here hx rfl (hb hby d3_9) rfl stp) ?_
    refine own_retI X0 hx hlk hret (hb hby d3_10) (by decide) (by decide) ?_
    show own_Q3 Z p0 p1 h0 n0 _ T0.heap _
    rw [e0]
    exact ⟨p1, rfl, trivial, N0, rfl⟩
  · have ihc2_1 : p1.toInt ≤ p0.toInt := own_inl hc2_1
    refine own_up (S' := T0.setTop (mkF m 5 #[.val (.int p0), .val (.int p1)] [])) (fun t stp => XS.icmpNo X0.here hx rfl (hb hby d3_2) rfl (XT.ii_lt_f hc2_1) stp) ?_
    refine own_up (S' := T0.setTop (mkF m 6 #[.val (.int p0), .val (.int p1)] [(.int p0)])) (fun t stp => XS.iloadN X0.here hx rfl (hb hby d3_5) rfl stp) ?_
    refine own_up (S' := T0.setTop (mkF m 10 #[.val (.int p0), .val (.int p1)] [(.int p0)])) (fun t stp => XS.goto X0.here hx rfl (pc0 := 6) (pc' := 10) rfl (hb hby d3_6) (by decide) (by decide) stp) ?_
    refine own_retI X0 hx hlk hret (hb hby d3_10) (by decide) (by decide) ?_
    show own_Q3 Z p0 p1 h0 n0 _ T0.heap _
    rw [e0]
    exact ⟨p0, rfl, trivial, N0, rfl⟩
theorem d11_0 : decode prog_40_method_7_code 0 = .ok (.iconst 0, 1) := by decide +kernel
theorem d11_1 : decode prog_40_method_7_code 1 = .ok (.istore_n 2, 1) := by decide +kernel
theorem d11_2 : decode prog_40_method_7_code 2 = .ok (.iload_n 2, 1) := by decide +kernel
theorem d11_3 : decode prog_40_method_7_code 3 = .ok (.aload_n 0, 1) := by decide +kernel
theorem d11_4 : decode prog_40_method_7_code 4 = .ok (.getfield 7, 3) := by decide +kernel
theorem d11_7 : decode prog_40_method_7_code 7 = .ok (.arraylength, 1) := by decide +kernel
theorem d11_8 : decode prog_40_method_7_code 8 = .ok (.if_icmp .ge 21, 3) := by decide +kernel
theorem d11_11 : decode prog_40_method_7_code 11 = .ok (.aload_n 0, 1) := by decide +kernel
theorem d11_12 : decode prog_40_method_7_code 12 = .ok (.getfield 7, 3) := by decide +kernel
theorem d11_15 : decode prog_40_method_7_code 15 = .ok (.iload_n 2, 1) := by decide +kernel
theorem d11_16 : decode prog_40_method_7_code 16 = .ok (.iaload, 1) := by decide +kernel
theorem d11_17 : decode prog_40_method_7_code 17 = .ok (.iload_n 1, 1) := by decide +kernel
theorem d11_18 : decode prog_40_method_7_code 18 = .ok (.if_icmp .ne 5, 3) := by decide +kernel
theorem d11_21 : decode prog_40_method_7_code 21 = .ok (.iconst 1, 1) := by decide +kernel
theorem d11_22 : decode prog_40_method_7_code 22 = .ok (.ireturn, 1) := by decide +kernel
theorem d11_23 : decode prog_40_method_7_code 23 = .ok (.iinc 2 1, 3) := by decide +kernel
theorem d11_26 : decode prog_40_method_7_code 26 = .ok (.goto (-24), 3) := by decide +kernel
theorem d11_29 : decode prog_40_method_7_code 29 = .ok (.iconst 0, 1) := by decide +kernel
theorem d11_30 : decode prog_40_method_7_code 30 = .ok (.ireturn, 1) := by decide +kernel
def own_R11 : Room := { frames := 0, cells := 0, slots := 0, locals := 0 }
theorem own_ef11 (oo : Addr) (p1 : Int32) (m : MethodId) : entryFrame m #[(.ref oo), (.int p1)] 3 = mkF m 0 #[.val (.ref oo), .val (.int p1), .unset] [] := by first | (simp [entryFrame, mkF, argsToLocals, Value.category]; done) | rfl
def own_Q11 (Z : State) (oo : Addr) (p1 : Int32) (fa : Addr) (y0 : Int32) (h0 : Heap) (n0 : Nat) (v : Option Value) (h : Heap) (L : List Loc) : Prop := v = some (.int (if y0 = p1 then (1 : Int32) else (0 : Int32))) ∧ Fr n0 L ∧ h = h0
set_option maxRecDepth 65536 in
set_option maxHeartbeats 40000000 in
theorem rm11 (l : Launch) (Z : State) (a0 : Array Value) (hw : ∀ d ∈ tables_1, d.before a0 Z = true) (ws : List Jvm.Cond) (oo : Addr) (p1 : Int32) (fa : Addr) (y0 : Int32) (h0 : Heap) (n0 : Nat) (Z0 : n0 ≤ h0.size) (Ffs : Fld Z h0 oo "com/example/kinglet/kinglet/index/Occurrences" "fields" "[I" (.ref fa)) (Afa : own_Al Z h0 fa .int [(.int y0)]) :
    MetFree l (⟨"com/example/kinglet/kinglet/index/Occurrences", "inField", "(I)Z"⟩ : MethodName) (head1 (Jvm.Cond.code (⟨"com/example/kinglet/kinglet/index/Occurrences", "inField", "(I)Z"⟩ : MethodName) prog_40_method_7_code 3 (some .boolean) :: ws) own_R11) (fun a U => a = #[(.ref oo), (.int p1)] ∧ Z.Warmed39 U.vm ∧ U.heap = h0) (fun _ _ _ _ _ => True) (fun _ U o U' => ∃ v L, o = .returned v ∧ own_Q11 Z oo p1 fa y0 h0 n0 v U'.heap L ∧ FrameEnd U o U' L own_R11.cells own_R11.slots) := by
  refine own_met (Q := own_Q11 Z oo p1 fa y0 h0 n0) (plainFor_of_name (by first | (simp [plainName, overriddenIn]; done) | decide +kernel)) (own_ef11 oo p1) ?_
  intro p e s m below meth c T0 hx hby hml hown hnm hret hlk hZ e0 X0
  have N0 := Fr.nil n0
  refine own_up (S' := T0.setTop (mkF m 1 #[.val (.ref oo), .val (.int p1), .unset] [(.int (0 : Int32))])) (fun t stp => XT.iconstV X0.here hx rfl (0 : Int32) (hb hby d11_0) rfl stp) ?_
  refine own_up (S' := T0.setTop (mkF m 2 #[.val (.ref oo), .val (.int p1), .val (.int (0 : Int32))] [])) (fun t stp => XS.istoreN X0.here hx rfl (hb hby d11_1) rfl (l' := #[.val (.ref oo), .val (.int p1), .val (.int (0 : Int32))]) rfl stp) ?_
  refine own_up (S' := T0.setTop (mkF m 3 #[.val (.ref oo), .val (.int p1), .val (.int (0 : Int32))] [(.int (0 : Int32))])) (fun t stp => XS.iloadN X0.here hx rfl (hb hby d11_2) rfl stp) ?_
  refine own_up (S' := T0.setTop (mkF m 4 #[.val (.ref oo), .val (.int p1), .val (.int (0 : Int32))] [(.ref oo), (.int (0 : Int32))])) (fun t stp => XS.aloadN X0.here hx rfl (hb hby d11_3) rfl rfl stp) ?_
  refine own_get X0 hx hZ hown (hw _ (List.mem_of_getElem? (i := 10) rfl)) Via.refl e0 Ffs (g' := (mkF m 7 #[.val (.ref oo), .val (.int p1), .val (.int (0 : Int32))] [(.ref fa), (.int (0 : Int32))])) (hb hby d11_4) rfl rfl rfl ?_
  intro T1 X1 e1
  refine own_len X1 hx hZ e1 Afa (1 : Int32) (hb hby d11_7) (rfl) rfl rfl (g' := (mkF m 8 #[.val (.ref oo), .val (.int p1), .val (.int (0 : Int32))] [(.int (1 : Int32)), (.int (0 : Int32))])) rfl ?_
  have hc8_2 : (0 : Int32) < (1 : Int32) := by decide
  refine own_up (S' := T1.setTop (mkF m 11 #[.val (.ref oo), .val (.int p1), .val (.int (0 : Int32))] [])) (fun t stp => XS.icmpNo X1.here hx rfl (hb hby d11_8) rfl (XT.ii_ge_f hc8_2) stp) ?_
  refine own_up (S' := T1.setTop (mkF m 12 #[.val (.ref oo), .val (.int p1), .val (.int (0 : Int32))] [(.ref oo)])) (fun t stp => XS.aloadN X1.here hx rfl (hb hby d11_11) rfl rfl stp) ?_
  refine own_get X1 hx hZ hown (hw _ (List.mem_of_getElem? (i := 10) rfl)) Via.refl e1 Ffs (g' := (mkF m 15 #[.val (.ref oo), .val (.int p1), .val (.int (0 : Int32))] [(.ref fa)])) (hb hby d11_12) rfl rfl rfl ?_
  intro T3 X3 e3
  refine own_up (S' := T3.setTop (mkF m 16 #[.val (.ref oo), .val (.int p1), .val (.int (0 : Int32))] [(.int (0 : Int32)), (.ref fa)])) (fun t stp => XS.iloadN X3.here hx rfl (hb hby d11_15) rfl stp) ?_
  refine own_ldi X3 hx hZ e3 Afa (v := (.int y0)) 0 (hb hby d11_16) (rfl) (rfl) rfl rfl (g' := (mkF m 17 #[.val (.ref oo), .val (.int p1), .val (.int (0 : Int32))] [(.int y0)])) rfl ?_
  refine own_up (S' := T3.setTop (mkF m 18 #[.val (.ref oo), .val (.int p1), .val (.int (0 : Int32))] [(.int p1), (.int y0)])) (fun t stp => XS.iloadN X3.here hx rfl (hb hby d11_17) rfl stp) ?_
  by_cases hc18_4 : y0 = p1
  · have ihc18_4 : y0.toInt = p1.toInt := own_ieq hc18_4
    refine own_up (S' := T3.setTop (mkF m 21 #[.val (.ref oo), .val (.int p1), .val (.int (0 : Int32))] [])) (fun t stp => XS.icmpNo X3.here hx rfl (hb hby d11_18) rfl (XT.ii_ne_f hc18_4) stp) ?_
    refine own_up (S' := T3.setTop (mkF m 22 #[.val (.ref oo), .val (.int p1), .val (.int (0 : Int32))] [(.int (1 : Int32))])) (fun t stp => XT.iconstV X3.here hx rfl (1 : Int32) (hb hby d11_21) rfl stp) ?_
    refine own_retN X3 hx hlk (t := .boolean) hret (by simp) (z' := (1 : Int32)) rfl (hb hby d11_22) (by decide) (by decide) ?_
    show own_Q11 Z oo p1 fa y0 h0 n0 _ T3.heap _
    rw [e3]
    exact ⟨(by simp [hc18_4]), N0, rfl⟩
  · have ihc18_4 : y0.toInt ≠ p1.toInt := own_ine hc18_4
    refine own_up (S' := T3.setTop (mkF m 23 #[.val (.ref oo), .val (.int p1), .val (.int (0 : Int32))] [])) (fun t stp => XS.icmpYes X3.here hx rfl (pc0 := 18) (pc' := 23) rfl (hb hby d11_18) rfl (XT.ii_ne_t hc18_4) (by decide) (by decide) stp) ?_
    refine own_up (S' := T3.setTop (mkF m 26 #[.val (.ref oo), .val (.int p1), .val (.int (1 : Int32))] [])) (fun t stp => XT.iincV X3.here hx rfl (1 : Int32) (hb hby d11_23) rfl rfl (l' := #[.val (.ref oo), .val (.int p1), .val (.int (1 : Int32))]) rfl stp) ?_
    refine own_up (S' := T3.setTop (mkF m 2 #[.val (.ref oo), .val (.int p1), .val (.int (1 : Int32))] [])) (fun t stp => XS.goto X3.here hx rfl (pc0 := 26) (pc' := 2) rfl (hb hby d11_26) (by decide) (by decide) stp) ?_
    refine own_up (S' := T3.setTop (mkF m 3 #[.val (.ref oo), .val (.int p1), .val (.int (1 : Int32))] [(.int (1 : Int32))])) (fun t stp => XS.iloadN X3.here hx rfl (hb hby d11_2) rfl stp) ?_
    refine own_up (S' := T3.setTop (mkF m 4 #[.val (.ref oo), .val (.int p1), .val (.int (1 : Int32))] [(.ref oo), (.int (1 : Int32))])) (fun t stp => XS.aloadN X3.here hx rfl (hb hby d11_3) rfl rfl stp) ?_
    refine own_get X3 hx hZ hown (hw _ (List.mem_of_getElem? (i := 10) rfl)) Via.refl e3 Ffs (g' := (mkF m 7 #[.val (.ref oo), .val (.int p1), .val (.int (1 : Int32))] [(.ref fa), (.int (1 : Int32))])) (hb hby d11_4) rfl rfl rfl ?_
    intro T5 X5 e5
    refine own_len X5 hx hZ e5 Afa (1 : Int32) (hb hby d11_7) (rfl) rfl rfl (g' := (mkF m 8 #[.val (.ref oo), .val (.int p1), .val (.int (1 : Int32))] [(.int (1 : Int32)), (.int (1 : Int32))])) rfl ?_
    have hc8_6 : ¬ ((1 : Int32) < (1 : Int32)) := by decide
    refine own_up (S' := T5.setTop (mkF m 29 #[.val (.ref oo), .val (.int p1), .val (.int (1 : Int32))] [])) (fun t stp => XS.icmpYes X5.here hx rfl (pc0 := 8) (pc' := 29) rfl (hb hby d11_8) rfl (XT.ii_ge_t hc8_6) (by decide) (by decide) stp) ?_
    refine own_up (S' := T5.setTop (mkF m 30 #[.val (.ref oo), .val (.int p1), .val (.int (1 : Int32))] [(.int (0 : Int32))])) (fun t stp => XT.iconstV X5.here hx rfl (0 : Int32) (hb hby d11_29) rfl stp) ?_
    refine own_retN X5 hx hlk (t := .boolean) hret (by simp) (z' := (0 : Int32)) rfl (hb hby d11_30) (by decide) (by decide) ?_
    show own_Q11 Z oo p1 fa y0 h0 n0 _ T5.heap _
    rw [e5]
    exact ⟨(by simp [hc18_4]), N0, rfl⟩
theorem d12_0 : decode prog_40_method_7_code 0 = .ok (.iconst 0, 1) := by decide +kernel
theorem d12_1 : decode prog_40_method_7_code 1 = .ok (.istore_n 2, 1) := by decide +kernel
theorem d12_2 : decode prog_40_method_7_code 2 = .ok (.iload_n 2, 1) := by decide +kernel
theorem d12_3 : decode prog_40_method_7_code 3 = .ok (.aload_n 0, 1) := by decide +kernel
theorem d12_4 : decode prog_40_method_7_code 4 = .ok (.getfield 7, 3) := by decide +kernel
theorem d12_7 : decode prog_40_method_7_code 7 = .ok (.arraylength, 1) := by decide +kernel
theorem d12_8 : decode prog_40_method_7_code 8 = .ok (.if_icmp .ge 21, 3) := by decide +kernel
theorem d12_11 : decode prog_40_method_7_code 11 = .ok (.aload_n 0, 1) := by decide +kernel
theorem d12_12 : decode prog_40_method_7_code 12 = .ok (.getfield 7, 3) := by decide +kernel
theorem d12_15 : decode prog_40_method_7_code 15 = .ok (.iload_n 2, 1) := by decide +kernel
theorem d12_16 : decode prog_40_method_7_code 16 = .ok (.iaload, 1) := by decide +kernel
theorem d12_17 : decode prog_40_method_7_code 17 = .ok (.iload_n 1, 1) := by decide +kernel
theorem d12_18 : decode prog_40_method_7_code 18 = .ok (.if_icmp .ne 5, 3) := by decide +kernel
theorem d12_21 : decode prog_40_method_7_code 21 = .ok (.iconst 1, 1) := by decide +kernel
theorem d12_22 : decode prog_40_method_7_code 22 = .ok (.ireturn, 1) := by decide +kernel
theorem d12_23 : decode prog_40_method_7_code 23 = .ok (.iinc 2 1, 3) := by decide +kernel
theorem d12_26 : decode prog_40_method_7_code 26 = .ok (.goto (-24), 3) := by decide +kernel
theorem d12_29 : decode prog_40_method_7_code 29 = .ok (.iconst 0, 1) := by decide +kernel
theorem d12_30 : decode prog_40_method_7_code 30 = .ok (.ireturn, 1) := by decide +kernel
def own_R12 : Room := { frames := 0, cells := 0, slots := 0, locals := 0 }
theorem own_ef12 (oo : Addr) (p1 : Int32) (m : MethodId) : entryFrame m #[(.ref oo), (.int p1)] 3 = mkF m 0 #[.val (.ref oo), .val (.int p1), .unset] [] := by first | (simp [entryFrame, mkF, argsToLocals, Value.category]; done) | rfl
def own_Q12 (Z : State) (oo : Addr) (p1 : Int32) (fa : Addr) (y0 : Int32) (y1 : Int32) (h0 : Heap) (n0 : Nat) (v : Option Value) (h : Heap) (L : List Loc) : Prop := v = some (.int (if y0 = p1 then (1 : Int32) else (if y1 = p1 then (1 : Int32) else (0 : Int32)))) ∧ Fr n0 L ∧ h = h0
set_option maxRecDepth 65536 in
set_option maxHeartbeats 40000000 in
theorem rm12 (l : Launch) (Z : State) (a0 : Array Value) (hw : ∀ d ∈ tables_1, d.before a0 Z = true) (ws : List Jvm.Cond) (oo : Addr) (p1 : Int32) (fa : Addr) (y0 : Int32) (y1 : Int32) (h0 : Heap) (n0 : Nat) (Z0 : n0 ≤ h0.size) (Ffs : Fld Z h0 oo "com/example/kinglet/kinglet/index/Occurrences" "fields" "[I" (.ref fa)) (Afa : own_Al Z h0 fa .int [(.int y0), (.int y1)]) :
    MetFree l (⟨"com/example/kinglet/kinglet/index/Occurrences", "inField", "(I)Z"⟩ : MethodName) (head1 (Jvm.Cond.code (⟨"com/example/kinglet/kinglet/index/Occurrences", "inField", "(I)Z"⟩ : MethodName) prog_40_method_7_code 3 (some .boolean) :: ws) own_R12) (fun a U => a = #[(.ref oo), (.int p1)] ∧ Z.Warmed39 U.vm ∧ U.heap = h0) (fun _ _ _ _ _ => True) (fun _ U o U' => ∃ v L, o = .returned v ∧ own_Q12 Z oo p1 fa y0 y1 h0 n0 v U'.heap L ∧ FrameEnd U o U' L own_R12.cells own_R12.slots) := by
  refine own_met (Q := own_Q12 Z oo p1 fa y0 y1 h0 n0) (plainFor_of_name (by first | (simp [plainName, overriddenIn]; done) | decide +kernel)) (own_ef12 oo p1) ?_
  intro p e s m below meth c T0 hx hby hml hown hnm hret hlk hZ e0 X0
  have N0 := Fr.nil n0
  refine own_up (S' := T0.setTop (mkF m 1 #[.val (.ref oo), .val (.int p1), .unset] [(.int (0 : Int32))])) (fun t stp => XT.iconstV X0.here hx rfl (0 : Int32) (hb hby d12_0) rfl stp) ?_
  refine own_up (S' := T0.setTop (mkF m 2 #[.val (.ref oo), .val (.int p1), .val (.int (0 : Int32))] [])) (fun t stp => XS.istoreN X0.here hx rfl (hb hby d12_1) rfl (l' := #[.val (.ref oo), .val (.int p1), .val (.int (0 : Int32))]) rfl stp) ?_
  refine own_up (S' := T0.setTop (mkF m 3 #[.val (.ref oo), .val (.int p1), .val (.int (0 : Int32))] [(.int (0 : Int32))])) (fun t stp => XS.iloadN X0.here hx rfl (hb hby d12_2) rfl stp) ?_
  refine own_up (S' := T0.setTop (mkF m 4 #[.val (.ref oo), .val (.int p1), .val (.int (0 : Int32))] [(.ref oo), (.int (0 : Int32))])) (fun t stp => XS.aloadN X0.here hx rfl (hb hby d12_3) rfl rfl stp) ?_
  refine own_get X0 hx hZ hown (hw _ (List.mem_of_getElem? (i := 10) rfl)) Via.refl e0 Ffs (g' := (mkF m 7 #[.val (.ref oo), .val (.int p1), .val (.int (0 : Int32))] [(.ref fa), (.int (0 : Int32))])) (hb hby d12_4) rfl rfl rfl ?_
  intro T1 X1 e1
  refine own_len X1 hx hZ e1 Afa (2 : Int32) (hb hby d12_7) (rfl) rfl rfl (g' := (mkF m 8 #[.val (.ref oo), .val (.int p1), .val (.int (0 : Int32))] [(.int (2 : Int32)), (.int (0 : Int32))])) rfl ?_
  have hc8_2 : (0 : Int32) < (2 : Int32) := by decide
  refine own_up (S' := T1.setTop (mkF m 11 #[.val (.ref oo), .val (.int p1), .val (.int (0 : Int32))] [])) (fun t stp => XS.icmpNo X1.here hx rfl (hb hby d12_8) rfl (XT.ii_ge_f hc8_2) stp) ?_
  refine own_up (S' := T1.setTop (mkF m 12 #[.val (.ref oo), .val (.int p1), .val (.int (0 : Int32))] [(.ref oo)])) (fun t stp => XS.aloadN X1.here hx rfl (hb hby d12_11) rfl rfl stp) ?_
  refine own_get X1 hx hZ hown (hw _ (List.mem_of_getElem? (i := 10) rfl)) Via.refl e1 Ffs (g' := (mkF m 15 #[.val (.ref oo), .val (.int p1), .val (.int (0 : Int32))] [(.ref fa)])) (hb hby d12_12) rfl rfl rfl ?_
  intro T3 X3 e3
  refine own_up (S' := T3.setTop (mkF m 16 #[.val (.ref oo), .val (.int p1), .val (.int (0 : Int32))] [(.int (0 : Int32)), (.ref fa)])) (fun t stp => XS.iloadN X3.here hx rfl (hb hby d12_15) rfl stp) ?_
  refine own_ldi X3 hx hZ e3 Afa (v := (.int y0)) 0 (hb hby d12_16) (rfl) (rfl) rfl rfl (g' := (mkF m 17 #[.val (.ref oo), .val (.int p1), .val (.int (0 : Int32))] [(.int y0)])) rfl ?_
  refine own_up (S' := T3.setTop (mkF m 18 #[.val (.ref oo), .val (.int p1), .val (.int (0 : Int32))] [(.int p1), (.int y0)])) (fun t stp => XS.iloadN X3.here hx rfl (hb hby d12_17) rfl stp) ?_
  by_cases hc18_4 : y0 = p1
  · have ihc18_4 : y0.toInt = p1.toInt := own_ieq hc18_4
    refine own_up (S' := T3.setTop (mkF m 21 #[.val (.ref oo), .val (.int p1), .val (.int (0 : Int32))] [])) (fun t stp => XS.icmpNo X3.here hx rfl (hb hby d12_18) rfl (XT.ii_ne_f hc18_4) stp) ?_
    refine own_up (S' := T3.setTop (mkF m 22 #[.val (.ref oo), .val (.int p1), .val (.int (0 : Int32))] [(.int (1 : Int32))])) (fun t stp => XT.iconstV X3.here hx rfl (1 : Int32) (hb hby d12_21) rfl stp) ?_
    refine own_retN X3 hx hlk (t := .boolean) hret (by simp) (z' := (1 : Int32)) rfl (hb hby d12_22) (by decide) (by decide) ?_
    show own_Q12 Z oo p1 fa y0 y1 h0 n0 _ T3.heap _
    rw [e3]
    exact ⟨(by simp [hc18_4]), N0, rfl⟩
  · have ihc18_4 : y0.toInt ≠ p1.toInt := own_ine hc18_4
    refine own_up (S' := T3.setTop (mkF m 23 #[.val (.ref oo), .val (.int p1), .val (.int (0 : Int32))] [])) (fun t stp => XS.icmpYes X3.here hx rfl (pc0 := 18) (pc' := 23) rfl (hb hby d12_18) rfl (XT.ii_ne_t hc18_4) (by decide) (by decide) stp) ?_
    refine own_up (S' := T3.setTop (mkF m 26 #[.val (.ref oo), .val (.int p1), .val (.int (1 : Int32))] [])) (fun t stp => XT.iincV X3.here hx rfl (1 : Int32) (hb hby d12_23) rfl rfl (l' := #[.val (.ref oo), .val (.int p1), .val (.int (1 : Int32))]) rfl stp) ?_
    refine own_up (S' := T3.setTop (mkF m 2 #[.val (.ref oo), .val (.int p1), .val (.int (1 : Int32))] [])) (fun t stp => XS.goto X3.here hx rfl (pc0 := 26) (pc' := 2) rfl (hb hby d12_26) (by decide) (by decide) stp) ?_
    refine own_up (S' := T3.setTop (mkF m 3 #[.val (.ref oo), .val (.int p1), .val (.int (1 : Int32))] [(.int (1 : Int32))])) (fun t stp => XS.iloadN X3.here hx rfl (hb hby d12_2) rfl stp) ?_
    refine own_up (S' := T3.setTop (mkF m 4 #[.val (.ref oo), .val (.int p1), .val (.int (1 : Int32))] [(.ref oo), (.int (1 : Int32))])) (fun t stp => XS.aloadN X3.here hx rfl (hb hby d12_3) rfl rfl stp) ?_
    refine own_get X3 hx hZ hown (hw _ (List.mem_of_getElem? (i := 10) rfl)) Via.refl e3 Ffs (g' := (mkF m 7 #[.val (.ref oo), .val (.int p1), .val (.int (1 : Int32))] [(.ref fa), (.int (1 : Int32))])) (hb hby d12_4) rfl rfl rfl ?_
    intro T5 X5 e5
    refine own_len X5 hx hZ e5 Afa (2 : Int32) (hb hby d12_7) (rfl) rfl rfl (g' := (mkF m 8 #[.val (.ref oo), .val (.int p1), .val (.int (1 : Int32))] [(.int (2 : Int32)), (.int (1 : Int32))])) rfl ?_
    have hc8_6 : (1 : Int32) < (2 : Int32) := by decide
    refine own_up (S' := T5.setTop (mkF m 11 #[.val (.ref oo), .val (.int p1), .val (.int (1 : Int32))] [])) (fun t stp => XS.icmpNo X5.here hx rfl (hb hby d12_8) rfl (XT.ii_ge_f hc8_6) stp) ?_
    refine own_up (S' := T5.setTop (mkF m 12 #[.val (.ref oo), .val (.int p1), .val (.int (1 : Int32))] [(.ref oo)])) (fun t stp => XS.aloadN X5.here hx rfl (hb hby d12_11) rfl rfl stp) ?_
    refine own_get X5 hx hZ hown (hw _ (List.mem_of_getElem? (i := 10) rfl)) Via.refl e5 Ffs (g' := (mkF m 15 #[.val (.ref oo), .val (.int p1), .val (.int (1 : Int32))] [(.ref fa)])) (hb hby d12_12) rfl rfl rfl ?_
    intro T7 X7 e7
    refine own_up (S' := T7.setTop (mkF m 16 #[.val (.ref oo), .val (.int p1), .val (.int (1 : Int32))] [(.int (1 : Int32)), (.ref fa)])) (fun t stp => XS.iloadN X7.here hx rfl (hb hby d12_15) rfl stp) ?_
    refine own_ldi X7 hx hZ e7 Afa (v := (.int y1)) 1 (hb hby d12_16) (rfl) (rfl) rfl rfl (g' := (mkF m 17 #[.val (.ref oo), .val (.int p1), .val (.int (1 : Int32))] [(.int y1)])) rfl ?_
    refine own_up (S' := T7.setTop (mkF m 18 #[.val (.ref oo), .val (.int p1), .val (.int (1 : Int32))] [(.int p1), (.int y1)])) (fun t stp => XS.iloadN X7.here hx rfl (hb hby d12_17) rfl stp) ?_
    by_cases hc18_8 : y1 = p1
    · have ihc18_8 : y1.toInt = p1.toInt := own_ieq hc18_8
      refine own_up (S' := T7.setTop (mkF m 21 #[.val (.ref oo), .val (.int p1), .val (.int (1 : Int32))] [])) (fun t stp => XS.icmpNo X7.here hx rfl (hb hby d12_18) rfl (XT.ii_ne_f hc18_8) stp) ?_
      refine own_up (S' := T7.setTop (mkF m 22 #[.val (.ref oo), .val (.int p1), .val (.int (1 : Int32))] [(.int (1 : Int32))])) (fun t stp => XT.iconstV X7.here hx rfl (1 : Int32) (hb hby d12_21) rfl stp) ?_
      refine own_retN X7 hx hlk (t := .boolean) hret (by simp) (z' := (1 : Int32)) rfl (hb hby d12_22) (by decide) (by decide) ?_
      show own_Q12 Z oo p1 fa y0 y1 h0 n0 _ T7.heap _
      rw [e7]
      exact ⟨(by simp [hc18_4, hc18_8]), N0, rfl⟩
    · have ihc18_8 : y1.toInt ≠ p1.toInt := own_ine hc18_8
      refine own_up (S' := T7.setTop (mkF m 23 #[.val (.ref oo), .val (.int p1), .val (.int (1 : Int32))] [])) (fun t stp => XS.icmpYes X7.here hx rfl (pc0 := 18) (pc' := 23) rfl (hb hby d12_18) rfl (XT.ii_ne_t hc18_8) (by decide) (by decide) stp) ?_
      refine own_up (S' := T7.setTop (mkF m 26 #[.val (.ref oo), .val (.int p1), .val (.int (2 : Int32))] [])) (fun t stp => XT.iincV X7.here hx rfl (1 : Int32) (hb hby d12_23) rfl rfl (l' := #[.val (.ref oo), .val (.int p1), .val (.int (2 : Int32))]) rfl stp) ?_
      refine own_up (S' := T7.setTop (mkF m 2 #[.val (.ref oo), .val (.int p1), .val (.int (2 : Int32))] [])) (fun t stp => XS.goto X7.here hx rfl (pc0 := 26) (pc' := 2) rfl (hb hby d12_26) (by decide) (by decide) stp) ?_
      refine own_up (S' := T7.setTop (mkF m 3 #[.val (.ref oo), .val (.int p1), .val (.int (2 : Int32))] [(.int (2 : Int32))])) (fun t stp => XS.iloadN X7.here hx rfl (hb hby d12_2) rfl stp) ?_
      refine own_up (S' := T7.setTop (mkF m 4 #[.val (.ref oo), .val (.int p1), .val (.int (2 : Int32))] [(.ref oo), (.int (2 : Int32))])) (fun t stp => XS.aloadN X7.here hx rfl (hb hby d12_3) rfl rfl stp) ?_
      refine own_get X7 hx hZ hown (hw _ (List.mem_of_getElem? (i := 10) rfl)) Via.refl e7 Ffs (g' := (mkF m 7 #[.val (.ref oo), .val (.int p1), .val (.int (2 : Int32))] [(.ref fa), (.int (2 : Int32))])) (hb hby d12_4) rfl rfl rfl ?_
      intro T9 X9 e9
      refine own_len X9 hx hZ e9 Afa (2 : Int32) (hb hby d12_7) (rfl) rfl rfl (g' := (mkF m 8 #[.val (.ref oo), .val (.int p1), .val (.int (2 : Int32))] [(.int (2 : Int32)), (.int (2 : Int32))])) rfl ?_
      have hc8_10 : ¬ ((2 : Int32) < (2 : Int32)) := by decide
      refine own_up (S' := T9.setTop (mkF m 29 #[.val (.ref oo), .val (.int p1), .val (.int (2 : Int32))] [])) (fun t stp => XS.icmpYes X9.here hx rfl (pc0 := 8) (pc' := 29) rfl (hb hby d12_8) rfl (XT.ii_ge_t hc8_10) (by decide) (by decide) stp) ?_
      refine own_up (S' := T9.setTop (mkF m 30 #[.val (.ref oo), .val (.int p1), .val (.int (2 : Int32))] [(.int (0 : Int32))])) (fun t stp => XT.iconstV X9.here hx rfl (0 : Int32) (hb hby d12_29) rfl stp) ?_
      refine own_retN X9 hx hlk (t := .boolean) hret (by simp) (z' := (0 : Int32)) rfl (hb hby d12_30) (by decide) (by decide) ?_
      show own_Q12 Z oo p1 fa y0 y1 h0 n0 _ T9.heap _
      rw [e9]
      exact ⟨(by simp [hc18_4, hc18_8]), N0, rfl⟩
theorem d13_0 : decode prog_40_method_7_code 0 = .ok (.iconst 0, 1) := by decide +kernel
theorem d13_1 : decode prog_40_method_7_code 1 = .ok (.istore_n 2, 1) := by decide +kernel
theorem d13_2 : decode prog_40_method_7_code 2 = .ok (.iload_n 2, 1) := by decide +kernel
theorem d13_3 : decode prog_40_method_7_code 3 = .ok (.aload_n 0, 1) := by decide +kernel
theorem d13_4 : decode prog_40_method_7_code 4 = .ok (.getfield 7, 3) := by decide +kernel
theorem d13_7 : decode prog_40_method_7_code 7 = .ok (.arraylength, 1) := by decide +kernel
theorem d13_8 : decode prog_40_method_7_code 8 = .ok (.if_icmp .ge 21, 3) := by decide +kernel
theorem d13_11 : decode prog_40_method_7_code 11 = .ok (.aload_n 0, 1) := by decide +kernel
theorem d13_12 : decode prog_40_method_7_code 12 = .ok (.getfield 7, 3) := by decide +kernel
theorem d13_15 : decode prog_40_method_7_code 15 = .ok (.iload_n 2, 1) := by decide +kernel
theorem d13_16 : decode prog_40_method_7_code 16 = .ok (.iaload, 1) := by decide +kernel
theorem d13_17 : decode prog_40_method_7_code 17 = .ok (.iload_n 1, 1) := by decide +kernel
theorem d13_18 : decode prog_40_method_7_code 18 = .ok (.if_icmp .ne 5, 3) := by decide +kernel
theorem d13_21 : decode prog_40_method_7_code 21 = .ok (.iconst 1, 1) := by decide +kernel
theorem d13_22 : decode prog_40_method_7_code 22 = .ok (.ireturn, 1) := by decide +kernel
theorem d13_23 : decode prog_40_method_7_code 23 = .ok (.iinc 2 1, 3) := by decide +kernel
theorem d13_26 : decode prog_40_method_7_code 26 = .ok (.goto (-24), 3) := by decide +kernel
theorem d13_29 : decode prog_40_method_7_code 29 = .ok (.iconst 0, 1) := by decide +kernel
theorem d13_30 : decode prog_40_method_7_code 30 = .ok (.ireturn, 1) := by decide +kernel
def own_R13 : Room := { frames := 0, cells := 0, slots := 0, locals := 0 }
theorem own_ef13 (oo : Addr) (p1 : Int32) (m : MethodId) : entryFrame m #[(.ref oo), (.int p1)] 3 = mkF m 0 #[.val (.ref oo), .val (.int p1), .unset] [] := by first | (simp [entryFrame, mkF, argsToLocals, Value.category]; done) | rfl
def own_Q13 (Z : State) (oo : Addr) (p1 : Int32) (fa : Addr) (y0 : Int32) (y1 : Int32) (y2 : Int32) (h0 : Heap) (n0 : Nat) (v : Option Value) (h : Heap) (L : List Loc) : Prop := v = some (.int (if y0 = p1 then (1 : Int32) else (if y1 = p1 then (1 : Int32) else (if y2 = p1 then (1 : Int32) else (0 : Int32))))) ∧ Fr n0 L ∧ h = h0
set_option maxRecDepth 65536 in
set_option maxHeartbeats 40000000 in
theorem rm13 (l : Launch) (Z : State) (a0 : Array Value) (hw : ∀ d ∈ tables_1, d.before a0 Z = true) (ws : List Jvm.Cond) (oo : Addr) (p1 : Int32) (fa : Addr) (y0 : Int32) (y1 : Int32) (y2 : Int32) (h0 : Heap) (n0 : Nat) (Z0 : n0 ≤ h0.size) (Ffs : Fld Z h0 oo "com/example/kinglet/kinglet/index/Occurrences" "fields" "[I" (.ref fa)) (Afa : own_Al Z h0 fa .int [(.int y0), (.int y1), (.int y2)]) :
    MetFree l (⟨"com/example/kinglet/kinglet/index/Occurrences", "inField", "(I)Z"⟩ : MethodName) (head1 (Jvm.Cond.code (⟨"com/example/kinglet/kinglet/index/Occurrences", "inField", "(I)Z"⟩ : MethodName) prog_40_method_7_code 3 (some .boolean) :: ws) own_R13) (fun a U => a = #[(.ref oo), (.int p1)] ∧ Z.Warmed39 U.vm ∧ U.heap = h0) (fun _ _ _ _ _ => True) (fun _ U o U' => ∃ v L, o = .returned v ∧ own_Q13 Z oo p1 fa y0 y1 y2 h0 n0 v U'.heap L ∧ FrameEnd U o U' L own_R13.cells own_R13.slots) := by
  refine own_met (Q := own_Q13 Z oo p1 fa y0 y1 y2 h0 n0) (plainFor_of_name (by first | (simp [plainName, overriddenIn]; done) | decide +kernel)) (own_ef13 oo p1) ?_
  intro p e s m below meth c T0 hx hby hml hown hnm hret hlk hZ e0 X0
  have N0 := Fr.nil n0
  refine own_up (S' := T0.setTop (mkF m 1 #[.val (.ref oo), .val (.int p1), .unset] [(.int (0 : Int32))])) (fun t stp => XT.iconstV X0.here hx rfl (0 : Int32) (hb hby d13_0) rfl stp) ?_
  refine own_up (S' := T0.setTop (mkF m 2 #[.val (.ref oo), .val (.int p1), .val (.int (0 : Int32))] [])) (fun t stp => XS.istoreN X0.here hx rfl (hb hby d13_1) rfl (l' := #[.val (.ref oo), .val (.int p1), .val (.int (0 : Int32))]) rfl stp) ?_
  refine own_up (S' := T0.setTop (mkF m 3 #[.val (.ref oo), .val (.int p1), .val (.int (0 : Int32))] [(.int (0 : Int32))])) (fun t stp => XS.iloadN X0.here hx rfl (hb hby d13_2) rfl stp) ?_
  refine own_up (S' := T0.setTop (mkF m 4 #[.val (.ref oo), .val (.int p1), .val (.int (0 : Int32))] [(.ref oo), (.int (0 : Int32))])) (fun t stp => XS.aloadN X0.here hx rfl (hb hby d13_3) rfl rfl stp) ?_
  refine own_get X0 hx hZ hown (hw _ (List.mem_of_getElem? (i := 10) rfl)) Via.refl e0 Ffs (g' := (mkF m 7 #[.val (.ref oo), .val (.int p1), .val (.int (0 : Int32))] [(.ref fa), (.int (0 : Int32))])) (hb hby d13_4) rfl rfl rfl ?_
  intro T1 X1 e1
  refine own_len X1 hx hZ e1 Afa (3 : Int32) (hb hby d13_7) (rfl) rfl rfl (g' := (mkF m 8 #[.val (.ref oo), .val (.int p1), .val (.int (0 : Int32))] [(.int (3 : Int32)), (.int (0 : Int32))])) rfl ?_
  have hc8_2 : (0 : Int32) < (3 : Int32) := by decide
  refine own_up (S' := T1.setTop (mkF m 11 #[.val (.ref oo), .val (.int p1), .val (.int (0 : Int32))] [])) (fun t stp => XS.icmpNo X1.here hx rfl (hb hby d13_8) rfl (XT.ii_ge_f hc8_2) stp) ?_
  refine own_up (S' := T1.setTop (mkF m 12 #[.val (.ref oo), .val (.int p1), .val (.int (0 : Int32))] [(.ref oo)])) (fun t stp => XS.aloadN X1.here hx rfl (hb hby d13_11) rfl rfl stp) ?_
  refine own_get X1 hx hZ hown (hw _ (List.mem_of_getElem? (i := 10) rfl)) Via.refl e1 Ffs (g' := (mkF m 15 #[.val (.ref oo), .val (.int p1), .val (.int (0 : Int32))] [(.ref fa)])) (hb hby d13_12) rfl rfl rfl ?_
  intro T3 X3 e3
  refine own_up (S' := T3.setTop (mkF m 16 #[.val (.ref oo), .val (.int p1), .val (.int (0 : Int32))] [(.int (0 : Int32)), (.ref fa)])) (fun t stp => XS.iloadN X3.here hx rfl (hb hby d13_15) rfl stp) ?_
  refine own_ldi X3 hx hZ e3 Afa (v := (.int y0)) 0 (hb hby d13_16) (rfl) (rfl) rfl rfl (g' := (mkF m 17 #[.val (.ref oo), .val (.int p1), .val (.int (0 : Int32))] [(.int y0)])) rfl ?_
  refine own_up (S' := T3.setTop (mkF m 18 #[.val (.ref oo), .val (.int p1), .val (.int (0 : Int32))] [(.int p1), (.int y0)])) (fun t stp => XS.iloadN X3.here hx rfl (hb hby d13_17) rfl stp) ?_
  by_cases hc18_4 : y0 = p1
  · have ihc18_4 : y0.toInt = p1.toInt := own_ieq hc18_4
    refine own_up (S' := T3.setTop (mkF m 21 #[.val (.ref oo), .val (.int p1), .val (.int (0 : Int32))] [])) (fun t stp => XS.icmpNo X3.here hx rfl (hb hby d13_18) rfl (XT.ii_ne_f hc18_4) stp) ?_
    refine own_up (S' := T3.setTop (mkF m 22 #[.val (.ref oo), .val (.int p1), .val (.int (0 : Int32))] [(.int (1 : Int32))])) (fun t stp => XT.iconstV X3.here hx rfl (1 : Int32) (hb hby d13_21) rfl stp) ?_
    refine own_retN X3 hx hlk (t := .boolean) hret (by simp) (z' := (1 : Int32)) rfl (hb hby d13_22) (by decide) (by decide) ?_
    show own_Q13 Z oo p1 fa y0 y1 y2 h0 n0 _ T3.heap _
    rw [e3]
    exact ⟨(by simp [hc18_4]), N0, rfl⟩
  · have ihc18_4 : y0.toInt ≠ p1.toInt := own_ine hc18_4
    refine own_up (S' := T3.setTop (mkF m 23 #[.val (.ref oo), .val (.int p1), .val (.int (0 : Int32))] [])) (fun t stp => XS.icmpYes X3.here hx rfl (pc0 := 18) (pc' := 23) rfl (hb hby d13_18) rfl (XT.ii_ne_t hc18_4) (by decide) (by decide) stp) ?_
    refine own_up (S' := T3.setTop (mkF m 26 #[.val (.ref oo), .val (.int p1), .val (.int (1 : Int32))] [])) (fun t stp => XT.iincV X3.here hx rfl (1 : Int32) (hb hby d13_23) rfl rfl (l' := #[.val (.ref oo), .val (.int p1), .val (.int (1 : Int32))]) rfl stp) ?_
    refine own_up (S' := T3.setTop (mkF m 2 #[.val (.ref oo), .val (.int p1), .val (.int (1 : Int32))] [])) (fun t stp => XS.goto X3.here hx rfl (pc0 := 26) (pc' := 2) rfl (hb hby d13_26) (by decide) (by decide) stp) ?_
    refine own_up (S' := T3.setTop (mkF m 3 #[.val (.ref oo), .val (.int p1), .val (.int (1 : Int32))] [(.int (1 : Int32))])) (fun t stp => XS.iloadN X3.here hx rfl (hb hby d13_2) rfl stp) ?_
    refine own_up (S' := T3.setTop (mkF m 4 #[.val (.ref oo), .val (.int p1), .val (.int (1 : Int32))] [(.ref oo), (.int (1 : Int32))])) (fun t stp => XS.aloadN X3.here hx rfl (hb hby d13_3) rfl rfl stp) ?_
    refine own_get X3 hx hZ hown (hw _ (List.mem_of_getElem? (i := 10) rfl)) Via.refl e3 Ffs (g' := (mkF m 7 #[.val (.ref oo), .val (.int p1), .val (.int (1 : Int32))] [(.ref fa), (.int (1 : Int32))])) (hb hby d13_4) rfl rfl rfl ?_
    intro T5 X5 e5
    refine own_len X5 hx hZ e5 Afa (3 : Int32) (hb hby d13_7) (rfl) rfl rfl (g' := (mkF m 8 #[.val (.ref oo), .val (.int p1), .val (.int (1 : Int32))] [(.int (3 : Int32)), (.int (1 : Int32))])) rfl ?_
    have hc8_6 : (1 : Int32) < (3 : Int32) := by decide
    refine own_up (S' := T5.setTop (mkF m 11 #[.val (.ref oo), .val (.int p1), .val (.int (1 : Int32))] [])) (fun t stp => XS.icmpNo X5.here hx rfl (hb hby d13_8) rfl (XT.ii_ge_f hc8_6) stp) ?_
    refine own_up (S' := T5.setTop (mkF m 12 #[.val (.ref oo), .val (.int p1), .val (.int (1 : Int32))] [(.ref oo)])) (fun t stp => XS.aloadN X5.here hx rfl (hb hby d13_11) rfl rfl stp) ?_
    refine own_get X5 hx hZ hown (hw _ (List.mem_of_getElem? (i := 10) rfl)) Via.refl e5 Ffs (g' := (mkF m 15 #[.val (.ref oo), .val (.int p1), .val (.int (1 : Int32))] [(.ref fa)])) (hb hby d13_12) rfl rfl rfl ?_
    intro T7 X7 e7
    refine own_up (S' := T7.setTop (mkF m 16 #[.val (.ref oo), .val (.int p1), .val (.int (1 : Int32))] [(.int (1 : Int32)), (.ref fa)])) (fun t stp => XS.iloadN X7.here hx rfl (hb hby d13_15) rfl stp) ?_
    refine own_ldi X7 hx hZ e7 Afa (v := (.int y1)) 1 (hb hby d13_16) (rfl) (rfl) rfl rfl (g' := (mkF m 17 #[.val (.ref oo), .val (.int p1), .val (.int (1 : Int32))] [(.int y1)])) rfl ?_
    refine own_up (S' := T7.setTop (mkF m 18 #[.val (.ref oo), .val (.int p1), .val (.int (1 : Int32))] [(.int p1), (.int y1)])) (fun t stp => XS.iloadN X7.here hx rfl (hb hby d13_17) rfl stp) ?_
    by_cases hc18_8 : y1 = p1
    · have ihc18_8 : y1.toInt = p1.toInt := own_ieq hc18_8
      refine own_up (S' := T7.setTop (mkF m 21 #[.val (.ref oo), .val (.int p1), .val (.int (1 : Int32))] [])) (fun t stp => XS.icmpNo X7.here hx rfl (hb hby d13_18) rfl (XT.ii_ne_f hc18_8) stp) ?_
      refine own_up (S' := T7.setTop (mkF m 22 #[.val (.ref oo), .val (.int p1), .val (.int (1 : Int32))] [(.int (1 : Int32))])) (fun t stp => XT.iconstV X7.here hx rfl (1 : Int32) (hb hby d13_21) rfl stp) ?_
      refine own_retN X7 hx hlk (t := .boolean) hret (by simp) (z' := (1 : Int32)) rfl (hb hby d13_22) (by decide) (by decide) ?_
      show own_Q13 Z oo p1 fa y0 y1 y2 h0 n0 _ T7.heap _
      rw [e7]
      exact ⟨(by simp [hc18_4, hc18_8]), N0, rfl⟩
    · have ihc18_8 : y1.toInt ≠ p1.toInt := own_ine hc18_8
      refine own_up (S' := T7.setTop (mkF m 23 #[.val (.ref oo), .val (.int p1), .val (.int (1 : Int32))] [])) (fun t stp => XS.icmpYes X7.here hx rfl (pc0 := 18) (pc' := 23) rfl (hb hby d13_18) rfl (XT.ii_ne_t hc18_8) (by decide) (by decide) stp) ?_
      refine own_up (S' := T7.setTop (mkF m 26 #[.val (.ref oo), .val (.int p1), .val (.int (2 : Int32))] [])) (fun t stp => XT.iincV X7.here hx rfl (1 : Int32) (hb hby d13_23) rfl rfl (l' := #[.val (.ref oo), .val (.int p1), .val (.int (2 : Int32))]) rfl stp) ?_
      refine own_up (S' := T7.setTop (mkF m 2 #[.val (.ref oo), .val (.int p1), .val (.int (2 : Int32))] [])) (fun t stp => XS.goto X7.here hx rfl (pc0 := 26) (pc' := 2) rfl (hb hby d13_26) (by decide) (by decide) stp) ?_
      refine own_up (S' := T7.setTop (mkF m 3 #[.val (.ref oo), .val (.int p1), .val (.int (2 : Int32))] [(.int (2 : Int32))])) (fun t stp => XS.iloadN X7.here hx rfl (hb hby d13_2) rfl stp) ?_
      refine own_up (S' := T7.setTop (mkF m 4 #[.val (.ref oo), .val (.int p1), .val (.int (2 : Int32))] [(.ref oo), (.int (2 : Int32))])) (fun t stp => XS.aloadN X7.here hx rfl (hb hby d13_3) rfl rfl stp) ?_
      refine own_get X7 hx hZ hown (hw _ (List.mem_of_getElem? (i := 10) rfl)) Via.refl e7 Ffs (g' := (mkF m 7 #[.val (.ref oo), .val (.int p1), .val (.int (2 : Int32))] [(.ref fa), (.int (2 : Int32))])) (hb hby d13_4) rfl rfl rfl ?_
      intro T9 X9 e9
      refine own_len X9 hx hZ e9 Afa (3 : Int32) (hb hby d13_7) (rfl) rfl rfl (g' := (mkF m 8 #[.val (.ref oo), .val (.int p1), .val (.int (2 : Int32))] [(.int (3 : Int32)), (.int (2 : Int32))])) rfl ?_
      have hc8_10 : (2 : Int32) < (3 : Int32) := by decide
      refine own_up (S' := T9.setTop (mkF m 11 #[.val (.ref oo), .val (.int p1), .val (.int (2 : Int32))] [])) (fun t stp => XS.icmpNo X9.here hx rfl (hb hby d13_8) rfl (XT.ii_ge_f hc8_10) stp) ?_
      refine own_up (S' := T9.setTop (mkF m 12 #[.val (.ref oo), .val (.int p1), .val (.int (2 : Int32))] [(.ref oo)])) (fun t stp => XS.aloadN X9.here hx rfl (hb hby d13_11) rfl rfl stp) ?_
      refine own_get X9 hx hZ hown (hw _ (List.mem_of_getElem? (i := 10) rfl)) Via.refl e9 Ffs (g' := (mkF m 15 #[.val (.ref oo), .val (.int p1), .val (.int (2 : Int32))] [(.ref fa)])) (hb hby d13_12) rfl rfl rfl ?_
      intro T11 X11 e11
      refine own_up (S' := T11.setTop (mkF m 16 #[.val (.ref oo), .val (.int p1), .val (.int (2 : Int32))] [(.int (2 : Int32)), (.ref fa)])) (fun t stp => XS.iloadN X11.here hx rfl (hb hby d13_15) rfl stp) ?_
      refine own_ldi X11 hx hZ e11 Afa (v := (.int y2)) 2 (hb hby d13_16) (rfl) (rfl) rfl rfl (g' := (mkF m 17 #[.val (.ref oo), .val (.int p1), .val (.int (2 : Int32))] [(.int y2)])) rfl ?_
      refine own_up (S' := T11.setTop (mkF m 18 #[.val (.ref oo), .val (.int p1), .val (.int (2 : Int32))] [(.int p1), (.int y2)])) (fun t stp => XS.iloadN X11.here hx rfl (hb hby d13_17) rfl stp) ?_
      by_cases hc18_12 : y2 = p1
      · have ihc18_12 : y2.toInt = p1.toInt := own_ieq hc18_12
        refine own_up (S' := T11.setTop (mkF m 21 #[.val (.ref oo), .val (.int p1), .val (.int (2 : Int32))] [])) (fun t stp => XS.icmpNo X11.here hx rfl (hb hby d13_18) rfl (XT.ii_ne_f hc18_12) stp) ?_
        refine own_up (S' := T11.setTop (mkF m 22 #[.val (.ref oo), .val (.int p1), .val (.int (2 : Int32))] [(.int (1 : Int32))])) (fun t stp => XT.iconstV X11.here hx rfl (1 : Int32) (hb hby d13_21) rfl stp) ?_
        refine own_retN X11 hx hlk (t := .boolean) hret (by simp) (z' := (1 : Int32)) rfl (hb hby d13_22) (by decide) (by decide) ?_
        show own_Q13 Z oo p1 fa y0 y1 y2 h0 n0 _ T11.heap _
        rw [e11]
        exact ⟨(by simp [hc18_4, hc18_8, hc18_12]), N0, rfl⟩
      · have ihc18_12 : y2.toInt ≠ p1.toInt := own_ine hc18_12
        refine own_up (S' := T11.setTop (mkF m 23 #[.val (.ref oo), .val (.int p1), .val (.int (2 : Int32))] [])) (fun t stp => XS.icmpYes X11.here hx rfl (pc0 := 18) (pc' := 23) rfl (hb hby d13_18) rfl (XT.ii_ne_t hc18_12) (by decide) (by decide) stp) ?_
        refine own_up (S' := T11.setTop (mkF m 26 #[.val (.ref oo), .val (.int p1), .val (.int (3 : Int32))] [])) (fun t stp => XT.iincV X11.here hx rfl (1 : Int32) (hb hby d13_23) rfl rfl (l' := #[.val (.ref oo), .val (.int p1), .val (.int (3 : Int32))]) rfl stp) ?_
        refine own_up (S' := T11.setTop (mkF m 2 #[.val (.ref oo), .val (.int p1), .val (.int (3 : Int32))] [])) (fun t stp => XS.goto X11.here hx rfl (pc0 := 26) (pc' := 2) rfl (hb hby d13_26) (by decide) (by decide) stp) ?_
        refine own_up (S' := T11.setTop (mkF m 3 #[.val (.ref oo), .val (.int p1), .val (.int (3 : Int32))] [(.int (3 : Int32))])) (fun t stp => XS.iloadN X11.here hx rfl (hb hby d13_2) rfl stp) ?_
        refine own_up (S' := T11.setTop (mkF m 4 #[.val (.ref oo), .val (.int p1), .val (.int (3 : Int32))] [(.ref oo), (.int (3 : Int32))])) (fun t stp => XS.aloadN X11.here hx rfl (hb hby d13_3) rfl rfl stp) ?_
        refine own_get X11 hx hZ hown (hw _ (List.mem_of_getElem? (i := 10) rfl)) Via.refl e11 Ffs (g' := (mkF m 7 #[.val (.ref oo), .val (.int p1), .val (.int (3 : Int32))] [(.ref fa), (.int (3 : Int32))])) (hb hby d13_4) rfl rfl rfl ?_
        intro T13 X13 e13
        refine own_len X13 hx hZ e13 Afa (3 : Int32) (hb hby d13_7) (rfl) rfl rfl (g' := (mkF m 8 #[.val (.ref oo), .val (.int p1), .val (.int (3 : Int32))] [(.int (3 : Int32)), (.int (3 : Int32))])) rfl ?_
        have hc8_14 : ¬ ((3 : Int32) < (3 : Int32)) := by decide
        refine own_up (S' := T13.setTop (mkF m 29 #[.val (.ref oo), .val (.int p1), .val (.int (3 : Int32))] [])) (fun t stp => XS.icmpYes X13.here hx rfl (pc0 := 8) (pc' := 29) rfl (hb hby d13_8) rfl (XT.ii_ge_t hc8_14) (by decide) (by decide) stp) ?_
        refine own_up (S' := T13.setTop (mkF m 30 #[.val (.ref oo), .val (.int p1), .val (.int (3 : Int32))] [(.int (0 : Int32))])) (fun t stp => XT.iconstV X13.here hx rfl (0 : Int32) (hb hby d13_29) rfl stp) ?_
        refine own_retN X13 hx hlk (t := .boolean) hret (by simp) (z' := (0 : Int32)) rfl (hb hby d13_30) (by decide) (by decide) ?_
        show own_Q13 Z oo p1 fa y0 y1 y2 h0 n0 _ T13.heap _
        rw [e13]
        exact ⟨(by simp [hc18_4, hc18_8, hc18_12]), N0, rfl⟩
theorem own_ef0 (a1 : Int32) (b1 : Int32) (c1 : Int32) (x1 : Int32) (se : Int32) (m : MethodId) : entryFrame m #[(.int a1), (.int b1), (.int c1), (.int x1), (.int se)] maxLocals = mkF m 0 #[.val (.int a1), .val (.int b1), .val (.int c1), .val (.int x1), .val (.int se), .unset, .unset, .unset, .unset, .unset, .unset, .unset, .unset, .unset, .unset] [] := by first | (simp [entryFrame, mkF, argsToLocals, Value.category, maxLocals]; done) | rfl
def own_Q0 (Z : State) (a1 : Int32) (b1 : Int32) (c1 : Int32) (x1 : Int32) (se : Int32)  (h0 : Heap) (n0 : Nat) (v : Option Value) (h : Heap) (L : List Loc) : Prop := v = some (.int 1) ∧ Fr n0 L
set_option maxRecDepth 65536 in
set_option maxHeartbeats 40000000 in
theorem rm0 (l : Launch) (Z : State) (a0 : Array Value) (hw : ∀ d ∈ tables_1, d.before a0 Z = true) (ws : List Jvm.Cond) (a1 : Int32) (b1 : Int32) (c1 : Int32) (x1 : Int32) (se : Int32)  (h0 : Heap) (n0 : Nat) (Z0 : n0 ≤ h0.size)  :
    MetFree l x (head1 (Jvm.Cond.code x code maxLocals ret :: ws) room_1) (fun a U => a = #[(.int a1), (.int b1), (.int c1), (.int x1), (.int se)] ∧ Z.Warmed39 U.vm ∧ U.heap = h0) (fun _ _ _ _ _ => True) (fun _ U o U' => ∃ v L, o = .returned v ∧ own_Q0 Z a1 b1 c1 x1 se h0 n0 v U'.heap L ∧ FrameEnd U o U' L room_1.cells room_1.slots) := by
  refine own_met (Q := own_Q0 Z a1 b1 c1 x1 se h0 n0) (plainFor_of_name (by first | (simp [plainName, overriddenIn, x]; done) | decide +kernel)) (own_ef0 a1 b1 c1 x1 se) ?_
  intro p e s m below meth c T0 hx hby hml hown hnm hret hlk hZ e0 X0
  have hown : s.vm.findClass "com/example/kinglet/kinglet/index/OccurrencesInFieldPinLaw" = some m.cls := hown
  have N0 := Fr.nil n0
  refine own_up (S' := T0.setTop (mkF m 1 #[.val (.int a1), .val (.int b1), .val (.int c1), .val (.int x1), .val (.int se), .unset, .unset, .unset, .unset, .unset, .unset, .unset, .unset, .unset, .unset] [(.int (1 : Int32))])) (fun t stp => XT.iconstV X0.here hx rfl (1 : Int32) (hb hby at_0) rfl stp) ?_
  refine own_up (S' := T0.setTop (mkF m 3 #[.val (.int a1), .val (.int b1), .val (.int c1), .val (.int x1), .val (.int se), .unset, .unset, .unset, .unset, .unset, .unset, .unset, .unset, .unset, .unset] [(.int se), (.int (1 : Int32))])) (fun t stp => XS.iload X0.here hx rfl (hb hby at_1) rfl stp) ?_
  refine own_up (S' := T0.setTop (mkF m 4 #[.val (.int a1), .val (.int b1), .val (.int c1), .val (.int x1), .val (.int se), .unset, .unset, .unset, .unset, .unset, .unset, .unset, .unset, .unset, .unset] [(.int (3 : Int32)), (.int se), (.int (1 : Int32))])) (fun t stp => XT.iconstV X0.here hx rfl (3 : Int32) (hb hby at_3) rfl stp) ?_
  refine own_up (S' := T0.setTop (mkF m 5 #[.val (.int a1), .val (.int b1), .val (.int c1), .val (.int x1), .val (.int se), .unset, .unset, .unset, .unset, .unset, .unset, .unset, .unset, .unset, .unset] [(.int (se &&& (3 : Int32))), (.int (1 : Int32))])) (fun t stp => XS.iand X0.here hx rfl (hb hby at_4) rfl stp) ?_
  refine own_up (S' := T0.setTop (mkF m 6 #[.val (.int a1), .val (.int b1), .val (.int c1), .val (.int x1), .val (.int se), .unset, .unset, .unset, .unset, .unset, .unset, .unset, .unset, .unset, .unset] [(.int (3 : Int32)), (.int (se &&& (3 : Int32))), (.int (1 : Int32))])) (fun t stp => XT.iconstV X0.here hx rfl (3 : Int32) (hb hby at_5) rfl stp) ?_
  refine own_up (S' := T0.setTop (mkF m 7 #[.val (.int a1), .val (.int b1), .val (.int c1), .val (.int x1), .val (.int se), .unset, .unset, .unset, .unset, .unset, .unset, .unset, .unset, .unset, .unset] [(.int ((se &&& (3 : Int32)) % (3 : Int32))), (.int (1 : Int32))])) (fun t stp => iremM X0 hx rfl (hb hby at_6) rfl (by decide) stp) ?_
  refine own_up (S' := T0.setTop (mkF m 8 #[.val (.int a1), .val (.int b1), .val (.int c1), .val (.int x1), .val (.int se), .unset, .unset, .unset, .unset, .unset, .unset, .unset, .unset, .unset, .unset] [(.int ((1 : Int32) + ((se &&& (3 : Int32)) % (3 : Int32))))])) (fun t stp => XS.iadd X0.here hx rfl (hb hby at_7) rfl stp) ?_
  obtain ⟨nn, h_nn⟩ : ∃ z : Int32, z = ((1 : Int32) + ((se &&& (3 : Int32)) % (3 : Int32))) := ⟨_, rfl⟩
  rw [← h_nn]
  refine own_up (S' := T0.setTop (mkF m 10 #[.val (.int a1), .val (.int b1), .val (.int c1), .val (.int x1), .val (.int se), .val (.int nn), .unset, .unset, .unset, .unset, .unset, .unset, .unset, .unset, .unset] [])) (fun t stp => XS.istore X0.here hx rfl (hb hby at_8) rfl (l' := #[.val (.int a1), .val (.int b1), .val (.int c1), .val (.int x1), .val (.int se), .val (.int nn), .unset, .unset, .unset, .unset, .unset, .unset, .unset, .unset, .unset]) rfl stp) ?_
  have hn := own_n3 se
  rw [← h_nn] at hn
  clear h_nn
  rcases hn with rfl | rfl | rfl
  · refine own_up (S' := T0.setTop (mkF m 12 #[.val (.int a1), .val (.int b1), .val (.int c1), .val (.int x1), .val (.int se), .val (.int (1 : Int32)), .unset, .unset, .unset, .unset, .unset, .unset, .unset, .unset, .unset] [(.int (1 : Int32))])) (fun t stp => XS.iload X0.here hx rfl (hb hby at_10) rfl stp) ?_
    refine own_up (S' := T0.setTop (mkF m 13 #[.val (.int a1), .val (.int b1), .val (.int c1), .val (.int x1), .val (.int se), .val (.int (1 : Int32)), .unset, .unset, .unset, .unset, .unset, .unset, .unset, .unset, .unset] [(.int (1 : Int32)), (.int (1 : Int32))])) (fun t stp => XT.iconstV X0.here hx rfl (1 : Int32) (hb hby at_12) rfl stp) ?_
    have hc13_1 : (1 : Int32) = (1 : Int32) := rfl
    refine own_up (S' := T0.setTop (mkF m 16 #[.val (.int a1), .val (.int b1), .val (.int c1), .val (.int x1), .val (.int se), .val (.int (1 : Int32)), .unset, .unset, .unset, .unset, .unset, .unset, .unset, .unset, .unset] [])) (fun t stp => XS.icmpNo X0.here hx rfl (hb hby at_13) rfl (XT.ii_ne_f hc13_1) stp) ?_
    refine own_up (S' := T0.setTop (mkF m 17 #[.val (.int a1), .val (.int b1), .val (.int c1), .val (.int x1), .val (.int se), .val (.int (1 : Int32)), .unset, .unset, .unset, .unset, .unset, .unset, .unset, .unset, .unset] [(.int a1)])) (fun t stp => XS.iloadN X0.here hx rfl (hb hby at_16) rfl stp) ?_
    refine own_up (S' := T0.setTop (mkF m 19 #[.val (.int a1), .val (.int b1), .val (.int c1), .val (.int x1), .val (.int se), .val (.int (1 : Int32)), .val (.int a1), .unset, .unset, .unset, .unset, .unset, .unset, .unset, .unset] [])) (fun t stp => XS.istore X0.here hx rfl (hb hby at_17) rfl (l' := #[.val (.int a1), .val (.int b1), .val (.int c1), .val (.int x1), .val (.int se), .val (.int (1 : Int32)), .val (.int a1), .unset, .unset, .unset, .unset, .unset, .unset, .unset, .unset]) rfl stp) ?_
    refine own_up (S' := T0.setTop (mkF m 20 #[.val (.int a1), .val (.int b1), .val (.int c1), .val (.int x1), .val (.int se), .val (.int (1 : Int32)), .val (.int a1), .unset, .unset, .unset, .unset, .unset, .unset, .unset, .unset] [(.int (0 : Int32))])) (fun t stp => XT.iconstV X0.here hx rfl (0 : Int32) (hb hby at_19) rfl stp) ?_
    refine own_up (S' := T0.setTop (mkF m 22 #[.val (.int a1), .val (.int b1), .val (.int c1), .val (.int x1), .val (.int se), .val (.int (1 : Int32)), .val (.int a1), .val (.int (0 : Int32)), .unset, .unset, .unset, .unset, .unset, .unset, .unset] [])) (fun t stp => XS.istore X0.here hx rfl (hb hby at_20) rfl (l' := #[.val (.int a1), .val (.int b1), .val (.int c1), .val (.int x1), .val (.int se), .val (.int (1 : Int32)), .val (.int a1), .val (.int (0 : Int32)), .unset, .unset, .unset, .unset, .unset, .unset, .unset]) rfl stp) ?_
    refine own_up (S' := T0.setTop (mkF m 23 #[.val (.int a1), .val (.int b1), .val (.int c1), .val (.int x1), .val (.int se), .val (.int (1 : Int32)), .val (.int a1), .val (.int (0 : Int32)), .unset, .unset, .unset, .unset, .unset, .unset, .unset] [(.int (0 : Int32))])) (fun t stp => XT.iconstV X0.here hx rfl (0 : Int32) (hb hby at_22) rfl stp) ?_
    refine own_up (S' := T0.setTop (mkF m 25 #[.val (.int a1), .val (.int b1), .val (.int c1), .val (.int x1), .val (.int se), .val (.int (1 : Int32)), .val (.int a1), .val (.int (0 : Int32)), .val (.int (0 : Int32)), .unset, .unset, .unset, .unset, .unset, .unset] [])) (fun t stp => XS.istore X0.here hx rfl (hb hby at_23) rfl (l' := #[.val (.int a1), .val (.int b1), .val (.int c1), .val (.int x1), .val (.int se), .val (.int (1 : Int32)), .val (.int a1), .val (.int (0 : Int32)), .val (.int (0 : Int32)), .unset, .unset, .unset, .unset, .unset, .unset]) rfl stp) ?_
    refine own_up (S' := T0.setTop (mkF m 26 #[.val (.int a1), .val (.int b1), .val (.int c1), .val (.int x1), .val (.int se), .val (.int (1 : Int32)), .val (.int a1), .val (.int (0 : Int32)), .val (.int (0 : Int32)), .unset, .unset, .unset, .unset, .unset, .unset] [(.int (1 : Int32))])) (fun t stp => XT.iconstV X0.here hx rfl (1 : Int32) (hb hby at_25) rfl stp) ?_
    refine own_newa X0 hx hZ (ty := .int) rfl (hw _ (List.mem_of_getElem? (i := 0) rfl)) e0 1 (hb hby at_26) (rfl) 1 (by decide) (by decide) (by decide) (by decide) rfl rfl ?_
    intro T2 h2 ad2 hb2 X2 e2 E2 A2
    have g_ad2 : n0 ≤ ad2 := Nat.le_trans Z0 (Nat.le_of_eq hb2.symm)
    have Zn3 := Nat.le_trans Z0 E2.1
    have Al2 : own_Al Z h2 ad2 .int [(.int (0 : Int32))] := A2
    show own_Ends p e below s (own_Q0 Z a1 b1 c1 x1 se h0 n0) room_1.cells room_1.slots (T2.setTop (mkF m 28 #[.val (.int a1), .val (.int b1), .val (.int c1), .val (.int x1), .val (.int se), .val (.int (1 : Int32)), .val (.int a1), .val (.int (0 : Int32)), .val (.int (0 : Int32)), .unset, .unset, .unset, .unset, .unset, .unset] [(.ref ad2)]))
    refine own_up (S' := T2.setTop (mkF m 29 #[.val (.int a1), .val (.int b1), .val (.int c1), .val (.int x1), .val (.int se), .val (.int (1 : Int32)), .val (.int a1), .val (.int (0 : Int32)), .val (.int (0 : Int32)), .unset, .unset, .unset, .unset, .unset, .unset] [(.ref ad2), (.ref ad2)])) (fun t stp => XS.dup X2.here hx rfl (hb hby at_28) rfl rfl stp) ?_
    refine own_up (S' := T2.setTop (mkF m 30 #[.val (.int a1), .val (.int b1), .val (.int c1), .val (.int x1), .val (.int se), .val (.int (1 : Int32)), .val (.int a1), .val (.int (0 : Int32)), .val (.int (0 : Int32)), .unset, .unset, .unset, .unset, .unset, .unset] [(.int (0 : Int32)), (.ref ad2), (.ref ad2)])) (fun t stp => XT.iconstV X2.here hx rfl (0 : Int32) (hb hby at_29) rfl stp) ?_
    refine own_up (S' := T2.setTop (mkF m 32 #[.val (.int a1), .val (.int b1), .val (.int c1), .val (.int x1), .val (.int se), .val (.int (1 : Int32)), .val (.int a1), .val (.int (0 : Int32)), .val (.int (0 : Int32)), .unset, .unset, .unset, .unset, .unset, .unset] [(.int a1), (.int (0 : Int32)), (.ref ad2), (.ref ad2)])) (fun t stp => XS.iload X2.here hx rfl (hb hby at_30) rfl stp) ?_
    refine own_sti X2 hx hZ e2 Al2 0 (hb hby at_32) (rfl) (Nat.le_of_ble_eq_true rfl) rfl rfl (g' := (mkF m 33 #[.val (.int a1), .val (.int b1), .val (.int c1), .val (.int x1), .val (.int se), .val (.int (1 : Int32)), .val (.int a1), .val (.int (0 : Int32)), .val (.int (0 : Int32)), .unset, .unset, .unset, .unset, .unset, .unset] [(.ref ad2)])) rfl ?_
    intro T5 h5 X5 e5 W5 B5
    have Zn6 := Nat.le_trans Zn3 (Nat.le_of_eq W5.size.symm)
    have N5 := Fr.snoc X5 N0 g_ad2
    have Al5 : own_Al Z h5 ad2 .int [(.int a1)] := B5
    refine own_up (S' := T5.setTop (mkF m 35 #[.val (.int a1), .val (.int b1), .val (.int c1), .val (.int x1), .val (.int se), .val (.int (1 : Int32)), .val (.int a1), .val (.int (0 : Int32)), .val (.int (0 : Int32)), .val (.ref ad2), .unset, .unset, .unset, .unset, .unset] [])) (fun t stp => XS.astore X5.here hx rfl (hb hby at_33) rfl rfl (l' := #[.val (.int a1), .val (.int b1), .val (.int c1), .val (.int x1), .val (.int se), .val (.int (1 : Int32)), .val (.int a1), .val (.int (0 : Int32)), .val (.int (0 : Int32)), .val (.ref ad2), .unset, .unset, .unset, .unset, .unset]) rfl stp) ?_
    refine own_up (S' := T5.setTop (mkF m 36 #[.val (.int a1), .val (.int b1), .val (.int c1), .val (.int x1), .val (.int se), .val (.int (1 : Int32)), .val (.int a1), .val (.int (0 : Int32)), .val (.int (0 : Int32)), .val (.ref ad2), .unset, .unset, .unset, .unset, .unset] [(.int (1 : Int32))])) (fun t stp => XT.iconstV X5.here hx rfl (1 : Int32) (hb hby at_35) rfl stp) ?_
    refine own_newa X5 hx hZ (ty := .int) rfl (hw _ (List.mem_of_getElem? (i := 0) rfl)) e5 1 (hb hby at_36) (rfl) 1 (by decide) (by decide) (by decide) (by decide) rfl rfl ?_
    intro T8 h8 ad8 hb8 X8 e8 E8 A8
    have ne8_ad2_ad8 : ad2 ≠ ad8 := Nat.ne_of_lt (Nat.lt_of_lt_of_eq (own_Al_lt Al5) hb8.symm)
    have g_ad8 : n0 ≤ ad8 := Nat.le_trans Zn6 (Nat.le_of_eq hb8.symm)
    have Zn9 := Nat.le_trans Zn6 E8.1
    have Al5_10 := own_Al_ext E8 Al5
    have Al8 : own_Al Z h8 ad8 .int [(.int (0 : Int32))] := A8
    show own_Ends p e below s (own_Q0 Z a1 b1 c1 x1 se h0 n0) room_1.cells room_1.slots (T8.setTop (mkF m 38 #[.val (.int a1), .val (.int b1), .val (.int c1), .val (.int x1), .val (.int se), .val (.int (1 : Int32)), .val (.int a1), .val (.int (0 : Int32)), .val (.int (0 : Int32)), .val (.ref ad2), .unset, .unset, .unset, .unset, .unset] [(.ref ad8)]))
    refine own_up (S' := T8.setTop (mkF m 39 #[.val (.int a1), .val (.int b1), .val (.int c1), .val (.int x1), .val (.int se), .val (.int (1 : Int32)), .val (.int a1), .val (.int (0 : Int32)), .val (.int (0 : Int32)), .val (.ref ad2), .unset, .unset, .unset, .unset, .unset] [(.ref ad8), (.ref ad8)])) (fun t stp => XS.dup X8.here hx rfl (hb hby at_38) rfl rfl stp) ?_
    refine own_up (S' := T8.setTop (mkF m 40 #[.val (.int a1), .val (.int b1), .val (.int c1), .val (.int x1), .val (.int se), .val (.int (1 : Int32)), .val (.int a1), .val (.int (0 : Int32)), .val (.int (0 : Int32)), .val (.ref ad2), .unset, .unset, .unset, .unset, .unset] [(.int (0 : Int32)), (.ref ad8), (.ref ad8)])) (fun t stp => XT.iconstV X8.here hx rfl (0 : Int32) (hb hby at_39) rfl stp) ?_
    refine own_up (S' := T8.setTop (mkF m 41 #[.val (.int a1), .val (.int b1), .val (.int c1), .val (.int x1), .val (.int se), .val (.int (1 : Int32)), .val (.int a1), .val (.int (0 : Int32)), .val (.int (0 : Int32)), .val (.ref ad2), .unset, .unset, .unset, .unset, .unset] [(.int (0 : Int32)), (.int (0 : Int32)), (.ref ad8), (.ref ad8)])) (fun t stp => XT.iconstV X8.here hx rfl (0 : Int32) (hb hby at_40) rfl stp) ?_
    refine own_sti X8 hx hZ e8 Al8 0 (hb hby at_41) (rfl) (Nat.le_of_ble_eq_true rfl) rfl rfl (g' := (mkF m 42 #[.val (.int a1), .val (.int b1), .val (.int c1), .val (.int x1), .val (.int se), .val (.int (1 : Int32)), .val (.int a1), .val (.int (0 : Int32)), .val (.int (0 : Int32)), .val (.ref ad2), .unset, .unset, .unset, .unset, .unset] [(.ref ad8)])) rfl ?_
    intro T11 h11 X11 e11 W11 B11
    have Zn12 := Nat.le_trans Zn9 (Nat.le_of_eq W11.size.symm)
    have Al5_13 := own_Al_oth W11 Al5_10 ne8_ad2_ad8
    have N11 := Fr.snoc X11 N5 g_ad8
    have Al11 : own_Al Z h11 ad8 .int [(.int (0 : Int32))] := B11
    refine own_up (S' := T11.setTop (mkF m 44 #[.val (.int a1), .val (.int b1), .val (.int c1), .val (.int x1), .val (.int se), .val (.int (1 : Int32)), .val (.int a1), .val (.int (0 : Int32)), .val (.int (0 : Int32)), .val (.ref ad2), .val (.ref ad8), .unset, .unset, .unset, .unset] [])) (fun t stp => XS.astore X11.here hx rfl (hb hby at_42) rfl rfl (l' := #[.val (.int a1), .val (.int b1), .val (.int c1), .val (.int x1), .val (.int se), .val (.int (1 : Int32)), .val (.int a1), .val (.int (0 : Int32)), .val (.int (0 : Int32)), .val (.ref ad2), .val (.ref ad8), .unset, .unset, .unset, .unset]) rfl stp) ?_
    refine own_up (S' := T11.setTop (mkF m 173 #[.val (.int a1), .val (.int b1), .val (.int c1), .val (.int x1), .val (.int se), .val (.int (1 : Int32)), .val (.int a1), .val (.int (0 : Int32)), .val (.int (0 : Int32)), .val (.ref ad2), .val (.ref ad8), .unset, .unset, .unset, .unset] [])) (fun t stp => XS.goto X11.here hx rfl (pc0 := 44) (pc' := 173) rfl (hb hby at_44) (by decide) (by decide) stp) ?_
    refine own_up (S' := T11.setTop (mkF m 175 #[.val (.int a1), .val (.int b1), .val (.int c1), .val (.int x1), .val (.int se), .val (.int (1 : Int32)), .val (.int a1), .val (.int (0 : Int32)), .val (.int (0 : Int32)), .val (.ref ad2), .val (.ref ad8), .unset, .unset, .unset, .unset] [(.int se)])) (fun t stp => XS.iload X11.here hx rfl (hb hby at_173) rfl stp) ?_
    refine own_up (S' := T11.setTop (mkF m 176 #[.val (.int a1), .val (.int b1), .val (.int c1), .val (.int x1), .val (.int se), .val (.int (1 : Int32)), .val (.int a1), .val (.int (0 : Int32)), .val (.int (0 : Int32)), .val (.ref ad2), .val (.ref ad8), .unset, .unset, .unset, .unset] [(.int (2 : Int32)), (.int se)])) (fun t stp => XT.iconstV X11.here hx rfl (2 : Int32) (hb hby at_175) rfl stp) ?_
    refine own_up (S' := T11.setTop (mkF m 177 #[.val (.int a1), .val (.int b1), .val (.int c1), .val (.int x1), .val (.int se), .val (.int (1 : Int32)), .val (.int a1), .val (.int (0 : Int32)), .val (.int (0 : Int32)), .val (.ref ad2), .val (.ref ad8), .unset, .unset, .unset, .unset] [(.int (XT.ushr se (2 : Int32)))])) (fun t stp => XT.iushr X11.here hx rfl (hb hby at_176) rfl stp) ?_
    refine own_up (S' := T11.setTop (mkF m 178 #[.val (.int a1), .val (.int b1), .val (.int c1), .val (.int x1), .val (.int se), .val (.int (1 : Int32)), .val (.int a1), .val (.int (0 : Int32)), .val (.int (0 : Int32)), .val (.ref ad2), .val (.ref ad8), .unset, .unset, .unset, .unset] [(.int (3 : Int32)), (.int (XT.ushr se (2 : Int32)))])) (fun t stp => XT.iconstV X11.here hx rfl (3 : Int32) (hb hby at_177) rfl stp) ?_
    refine own_up (S' := T11.setTop (mkF m 179 #[.val (.int a1), .val (.int b1), .val (.int c1), .val (.int x1), .val (.int se), .val (.int (1 : Int32)), .val (.int a1), .val (.int (0 : Int32)), .val (.int (0 : Int32)), .val (.ref ad2), .val (.ref ad8), .unset, .unset, .unset, .unset] [(.int ((XT.ushr se (2 : Int32)) &&& (3 : Int32)))])) (fun t stp => XS.iand X11.here hx rfl (hb hby at_178) rfl stp) ?_
    obtain ⟨kk, h_kk⟩ : ∃ z : Int32, z = ((XT.ushr se (2 : Int32)) &&& (3 : Int32)) := ⟨_, rfl⟩
    rw [← h_kk]
    refine own_up (S' := T11.setTop (mkF m 181 #[.val (.int a1), .val (.int b1), .val (.int c1), .val (.int x1), .val (.int se), .val (.int (1 : Int32)), .val (.int a1), .val (.int (0 : Int32)), .val (.int (0 : Int32)), .val (.ref ad2), .val (.ref ad8), .val (.int kk), .unset, .unset, .unset] [])) (fun t stp => XS.istore X11.here hx rfl (hb hby at_179) rfl (l' := #[.val (.int a1), .val (.int b1), .val (.int c1), .val (.int x1), .val (.int se), .val (.int (1 : Int32)), .val (.int a1), .val (.int (0 : Int32)), .val (.int (0 : Int32)), .val (.ref ad2), .val (.ref ad8), .val (.int kk), .unset, .unset, .unset]) rfl stp) ?_
    have J219_14 : ∀ (qv : Int32) (Lj14 : List Loc) (Nj14 : Fr n0 Lj14) (Tj14 : State) (Xj14 : Stand p l e room_1 s m #[(.int a1), (.int b1), (.int c1), (.int x1), (.int se)] below meth c Tj14 Lj14 2 2) (ej14 : Tj14.heap = h11), own_Ends p e below s (own_Q0 Z a1 b1 c1 x1 se h0 n0) room_1.cells room_1.slots (Tj14.setTop (mkF m 219 #[.val (.int a1), .val (.int b1), .val (.int c1), .val (.int x1), .val (.int se), .val (.int (1 : Int32)), .val (.int a1), .val (.int (0 : Int32)), .val (.int (0 : Int32)), .val (.ref ad2), .val (.ref ad8), .val (.int kk), .val (.int qv), .unset, .unset] [])) := by
      intro qv Lj14 Nj14 Tj14 Xj14 ej14
      refine own_up (S' := Tj14.setTop (mkF m 221 #[.val (.int a1), .val (.int b1), .val (.int c1), .val (.int x1), .val (.int se), .val (.int (1 : Int32)), .val (.int a1), .val (.int (0 : Int32)), .val (.int (0 : Int32)), .val (.ref ad2), .val (.ref ad8), .val (.int kk), .val (.int qv), .unset, .unset] [(.int qv)])) (fun t stp => XS.iload Xj14.here hx rfl (hb hby at_219) rfl stp) ?_
      refine own_up (S' := Tj14.setTop (mkF m 223 #[.val (.int a1), .val (.int b1), .val (.int c1), .val (.int x1), .val (.int se), .val (.int (1 : Int32)), .val (.int a1), .val (.int (0 : Int32)), .val (.int (0 : Int32)), .val (.ref ad2), .val (.ref ad8), .val (.int kk), .val (.int qv), .unset, .unset] [(.int a1), (.int qv)])) (fun t stp => XS.iload Xj14.here hx rfl (hb hby at_221) rfl stp) ?_
      by_cases hc223_15 : qv = a1
      · have ihc223_15 : qv.toInt = a1.toInt := own_ieq hc223_15
        refine own_up (S' := Tj14.setTop (mkF m 252 #[.val (.int a1), .val (.int b1), .val (.int c1), .val (.int x1), .val (.int se), .val (.int (1 : Int32)), .val (.int a1), .val (.int (0 : Int32)), .val (.int (0 : Int32)), .val (.ref ad2), .val (.ref ad8), .val (.int kk), .val (.int qv), .unset, .unset] [])) (fun t stp => XS.icmpYes Xj14.here hx rfl (pc0 := 223) (pc' := 252) rfl (hb hby at_223) rfl (XT.ii_eq_t hc223_15) (by decide) (by decide) stp) ?_
        refine own_up (S' := Tj14.setTop (mkF m 253 #[.val (.int a1), .val (.int b1), .val (.int c1), .val (.int x1), .val (.int se), .val (.int (1 : Int32)), .val (.int a1), .val (.int (0 : Int32)), .val (.int (0 : Int32)), .val (.ref ad2), .val (.ref ad8), .val (.int kk), .val (.int qv), .unset, .unset] [(.int (1 : Int32))])) (fun t stp => XT.iconstV Xj14.here hx rfl (1 : Int32) (hb hby at_252) rfl stp) ?_
        refine own_up (S' := Tj14.setTop (mkF m 257 #[.val (.int a1), .val (.int b1), .val (.int c1), .val (.int x1), .val (.int se), .val (.int (1 : Int32)), .val (.int a1), .val (.int (0 : Int32)), .val (.int (0 : Int32)), .val (.ref ad2), .val (.ref ad8), .val (.int kk), .val (.int qv), .unset, .unset] [(.int (1 : Int32))])) (fun t stp => XS.goto Xj14.here hx rfl (pc0 := 253) (pc' := 257) rfl (hb hby at_253) (by decide) (by decide) stp) ?_
        refine own_up (S' := Tj14.setTop (mkF m 259 #[.val (.int a1), .val (.int b1), .val (.int c1), .val (.int x1), .val (.int se), .val (.int (1 : Int32)), .val (.int a1), .val (.int (0 : Int32)), .val (.int (0 : Int32)), .val (.ref ad2), .val (.ref ad8), .val (.int kk), .val (.int qv), .val (.int (1 : Int32)), .unset] [])) (fun t stp => XS.istore Xj14.here hx rfl (hb hby at_257) rfl (l' := #[.val (.int a1), .val (.int b1), .val (.int c1), .val (.int x1), .val (.int se), .val (.int (1 : Int32)), .val (.int a1), .val (.int (0 : Int32)), .val (.int (0 : Int32)), .val (.ref ad2), .val (.ref ad8), .val (.int kk), .val (.int qv), .val (.int (1 : Int32)), .unset]) rfl stp) ?_
        refine own_new Xj14 hx hZ hown (hw _ (List.mem_of_getElem? (i := 1) rfl)) (hw _ (List.mem_of_getElem? (i := 2) rfl)) (hw _ (List.mem_of_getElem? (i := 3) rfl)) ej14 rfl (hb hby at_259) (by decide) (by decide) ?_
        intro T16 h16 ob hb16 X16 e16 E16 A16 D16
        have ne16_ad2_ob : ad2 ≠ ob := Nat.ne_of_lt (Nat.lt_of_lt_of_eq (own_Al_lt Al5_13) hb16.symm)
        have ne16_ad8_ob : ad8 ≠ ob := Nat.ne_of_lt (Nat.lt_of_lt_of_eq (own_Al_lt Al11) hb16.symm)
        have g_ob : n0 ≤ ob := Nat.le_trans Zn12 (Nat.le_of_eq hb16.symm)
        have Zn17 := Nat.le_trans Zn12 E16.1
        have Al5_18 := own_Al_ext E16 Al5_13
        have Al11_18 := own_Al_ext E16 Al11
        have Ffields_ob : Fld Z h16 ob "com/example/kinglet/kinglet/index/Occurrences" "fields" "[I" .null := D16 (Or.inr (hw _ (List.mem_of_getElem? (i := 11) rfl))) (ty := (.array .int)) (by decide)
        have Fpositions_ob : Fld Z h16 ob "com/example/kinglet/kinglet/index/Occurrences" "positions" "[I" .null := D16 (Or.inr (hw _ (List.mem_of_getElem? (i := 13) rfl))) (ty := (.array .int)) (by decide)
        show own_Ends p e below s (own_Q0 Z a1 b1 c1 x1 se h0 n0) room_1.cells room_1.slots (T16.setTop (mkF m 262 #[.val (.int a1), .val (.int b1), .val (.int c1), .val (.int x1), .val (.int se), .val (.int (1 : Int32)), .val (.int a1), .val (.int (0 : Int32)), .val (.int (0 : Int32)), .val (.ref ad2), .val (.ref ad8), .val (.int kk), .val (.int qv), .val (.int (1 : Int32)), .unset] [(.ref ob)]))
        refine own_up (S' := T16.setTop (mkF m 263 #[.val (.int a1), .val (.int b1), .val (.int c1), .val (.int x1), .val (.int se), .val (.int (1 : Int32)), .val (.int a1), .val (.int (0 : Int32)), .val (.int (0 : Int32)), .val (.ref ad2), .val (.ref ad8), .val (.int kk), .val (.int qv), .val (.int (1 : Int32)), .unset] [(.ref ob), (.ref ob)])) (fun t stp => XS.dup X16.here hx rfl (hb hby at_262) rfl rfl stp) ?_
        refine own_up (S' := T16.setTop (mkF m 265 #[.val (.int a1), .val (.int b1), .val (.int c1), .val (.int x1), .val (.int se), .val (.int (1 : Int32)), .val (.int a1), .val (.int (0 : Int32)), .val (.int (0 : Int32)), .val (.ref ad2), .val (.ref ad8), .val (.int kk), .val (.int qv), .val (.int (1 : Int32)), .unset] [(.ref ad2), (.ref ob), (.ref ob)])) (fun t stp => XS.aload X16.here hx rfl (hb hby at_263) rfl rfl stp) ?_
        refine own_up (S' := T16.setTop (mkF m 267 #[.val (.int a1), .val (.int b1), .val (.int c1), .val (.int x1), .val (.int se), .val (.int (1 : Int32)), .val (.int a1), .val (.int (0 : Int32)), .val (.int (0 : Int32)), .val (.ref ad2), .val (.ref ad8), .val (.int kk), .val (.int qv), .val (.int (1 : Int32)), .unset] [(.ref ad8), (.ref ad2), (.ref ob), (.ref ob)])) (fun t stp => XS.aload X16.here hx rfl (hb hby at_265) rfl rfl stp) ?_
        refine own_callI X16 hx hZ rfl hown (hw _ (List.mem_of_getElem? (i := 4) rfl)) (hw _ (List.mem_of_getElem? (i := 5) rfl)) (hw _ (List.mem_of_getElem? (i := 3) rfl)) (hw _ (List.mem_of_getElem? (i := 6) rfl)) (by decide) e16 (rm1 l Z a0 hw [] ob ad2 ad8 h16 n0 Zn17 Ffields_ob Fpositions_ob A16 g_ob) 1 ob [(.ref ad2), (.ref ad8)] [(.ref ob)] (hb hby at_267) (lenOf own_pd0 rfl) (by decide) (by decide) (by decide) (by decide) rfl (by rw [hml]; rfl) rfl (by show 2 * 0 + _ ≤ _; exact Nat.le_of_eq rfl) rfl ?_
        intro T19 L19 r19 X19 q19
        obtain ⟨rfl, M19, K19, G19a_19, G19b_19⟩ := q19
        have N19 := Fr.app Nj14 M19
        have Zn20 := Nat.le_trans Zn17 K19.1
        have Al5_21 := own_Al_keep K19 Al5_18 (ninS ne16_ad2_ob nin0)
        have Al11_21 := own_Al_keep K19 Al11_18 (ninS ne16_ad8_ob nin0)
        have A16_21 := A16.keep K19
        show own_Ends p e below s (own_Q0 Z a1 b1 c1 x1 se h0 n0) room_1.cells room_1.slots (T19.setTop (mkF m 270 #[.val (.int a1), .val (.int b1), .val (.int c1), .val (.int x1), .val (.int se), .val (.int (1 : Int32)), .val (.int a1), .val (.int (0 : Int32)), .val (.int (0 : Int32)), .val (.ref ad2), .val (.ref ad8), .val (.int kk), .val (.int qv), .val (.int (1 : Int32)), .unset] [(.ref ob)]))
        refine own_up (S' := T19.setTop (mkF m 272 #[.val (.int a1), .val (.int b1), .val (.int c1), .val (.int x1), .val (.int se), .val (.int (1 : Int32)), .val (.int a1), .val (.int (0 : Int32)), .val (.int (0 : Int32)), .val (.ref ad2), .val (.ref ad8), .val (.int kk), .val (.int qv), .val (.int (1 : Int32)), .val (.ref ob)] [])) (fun t stp => XS.astore X19.here hx rfl (hb hby at_270) rfl rfl (l' := #[.val (.int a1), .val (.int b1), .val (.int c1), .val (.int x1), .val (.int se), .val (.int (1 : Int32)), .val (.int a1), .val (.int (0 : Int32)), .val (.int (0 : Int32)), .val (.ref ad2), .val (.ref ad8), .val (.int kk), .val (.int qv), .val (.int (1 : Int32)), .val (.ref ob)]) rfl stp) ?_
        refine own_up (S' := T19.setTop (mkF m 274 #[.val (.int a1), .val (.int b1), .val (.int c1), .val (.int x1), .val (.int se), .val (.int (1 : Int32)), .val (.int a1), .val (.int (0 : Int32)), .val (.int (0 : Int32)), .val (.ref ad2), .val (.ref ad8), .val (.int kk), .val (.int qv), .val (.int (1 : Int32)), .val (.ref ob)] [(.ref ob)])) (fun t stp => XS.aload X19.here hx rfl (hb hby at_272) rfl rfl stp) ?_
        refine own_up (S' := T19.setTop (mkF m 276 #[.val (.int a1), .val (.int b1), .val (.int c1), .val (.int x1), .val (.int se), .val (.int (1 : Int32)), .val (.int a1), .val (.int (0 : Int32)), .val (.int (0 : Int32)), .val (.ref ad2), .val (.ref ad8), .val (.int kk), .val (.int qv), .val (.int (1 : Int32)), .val (.ref ob)] [(.int qv), (.ref ob)])) (fun t stp => XS.iload X19.here hx rfl (hb hby at_274) rfl stp) ?_
        refine own_callV X19 hx hZ hown (hw _ (List.mem_of_getElem? (i := 14) rfl)) (hw _ (List.mem_of_getElem? (i := 15) rfl)) (hw _ (List.mem_of_getElem? (i := 17) rfl)) (hw _ (List.mem_of_getElem? (i := 16) rfl)) (hw _ (List.mem_of_getElem? (i := 3) rfl)) (hw _ (List.mem_of_getElem? (i := 18) rfl)) (by decide) rfl (rm11 l Z a0 hw [] ob qv ad2 a1 T19.heap n0 Zn20 G19a_19 Al5_21) 0 A16_21 [(.int qv)] [] (hb hby at_276) (lenOf own_pd1 rfl) (by decide) (by decide) (by decide) (by decide) rfl (by rw [hml]; rfl) rfl (by show 2 * 0 + _ ≤ _; exact Nat.le_of_eq rfl) rfl ?_
        intro T22 L22 r22 X22 q22
        obtain ⟨rfl, M22, e22⟩ := q22
        have N22 := Fr.app N19 M22
        show own_Ends p e below s (own_Q0 Z a1 b1 c1 x1 se h0 n0) room_1.cells room_1.slots (T22.setTop (mkF m 279 #[.val (.int a1), .val (.int b1), .val (.int c1), .val (.int x1), .val (.int se), .val (.int (1 : Int32)), .val (.int a1), .val (.int (0 : Int32)), .val (.int (0 : Int32)), .val (.ref ad2), .val (.ref ad8), .val (.int kk), .val (.int qv), .val (.int (1 : Int32)), .val (.ref ob)] [(.int (if a1 = qv then (1 : Int32) else (0 : Int32)))]))
        refine own_up (S' := T22.setTop (mkF m 281 #[.val (.int a1), .val (.int b1), .val (.int c1), .val (.int x1), .val (.int se), .val (.int (1 : Int32)), .val (.int a1), .val (.int (0 : Int32)), .val (.int (0 : Int32)), .val (.ref ad2), .val (.ref ad8), .val (.int kk), .val (.int qv), .val (.int (1 : Int32)), .val (.ref ob)] [(.int (1 : Int32)), (.int (if a1 = qv then (1 : Int32) else (0 : Int32)))])) (fun t stp => XS.iload X22.here hx rfl (hb hby at_279) rfl stp) ?_
        have hc281_23 : (if a1 = qv then (1 : Int32) else (0 : Int32)) = (1 : Int32) := by simp [hc223_15]
        have ihc281_23 : (if a1 = qv then (1 : Int32) else (0 : Int32)).toInt = 1 := own_ieq hc281_23
        refine own_up (S' := T22.setTop (mkF m 284 #[.val (.int a1), .val (.int b1), .val (.int c1), .val (.int x1), .val (.int se), .val (.int (1 : Int32)), .val (.int a1), .val (.int (0 : Int32)), .val (.int (0 : Int32)), .val (.ref ad2), .val (.ref ad8), .val (.int kk), .val (.int qv), .val (.int (1 : Int32)), .val (.ref ob)] [])) (fun t stp => XS.icmpNo X22.here hx rfl (hb hby at_281) rfl (XT.ii_ne_f hc281_23) stp) ?_
        refine own_up (S' := T22.setTop (mkF m 285 #[.val (.int a1), .val (.int b1), .val (.int c1), .val (.int x1), .val (.int se), .val (.int (1 : Int32)), .val (.int a1), .val (.int (0 : Int32)), .val (.int (0 : Int32)), .val (.ref ad2), .val (.ref ad8), .val (.int kk), .val (.int qv), .val (.int (1 : Int32)), .val (.ref ob)] [(.int (1 : Int32))])) (fun t stp => XT.iconstV X22.here hx rfl (1 : Int32) (hb hby at_284) rfl stp) ?_
        refine own_up (S' := T22.setTop (mkF m 289 #[.val (.int a1), .val (.int b1), .val (.int c1), .val (.int x1), .val (.int se), .val (.int (1 : Int32)), .val (.int a1), .val (.int (0 : Int32)), .val (.int (0 : Int32)), .val (.ref ad2), .val (.ref ad8), .val (.int kk), .val (.int qv), .val (.int (1 : Int32)), .val (.ref ob)] [(.int (1 : Int32))])) (fun t stp => XS.goto X22.here hx rfl (pc0 := 285) (pc' := 289) rfl (hb hby at_285) (by decide) (by decide) stp) ?_
        refine own_retN X22 hx hlk (t := .boolean) hret (by simp) (z' := (1 : Int32)) rfl (hb hby at_289) (by decide) (by decide) ?_
        show own_Q0 Z a1 b1 c1 x1 se h0 n0 _ T22.heap _
        rw [e22]
        exact ⟨rfl, N22⟩
      · have ihc223_15 : qv.toInt ≠ a1.toInt := own_ine hc223_15
        refine own_up (S' := Tj14.setTop (mkF m 226 #[.val (.int a1), .val (.int b1), .val (.int c1), .val (.int x1), .val (.int se), .val (.int (1 : Int32)), .val (.int a1), .val (.int (0 : Int32)), .val (.int (0 : Int32)), .val (.ref ad2), .val (.ref ad8), .val (.int kk), .val (.int qv), .unset, .unset] [])) (fun t stp => XS.icmpNo Xj14.here hx rfl (hb hby at_223) rfl (XT.ii_eq_f hc223_15) stp) ?_
        refine own_up (S' := Tj14.setTop (mkF m 228 #[.val (.int a1), .val (.int b1), .val (.int c1), .val (.int x1), .val (.int se), .val (.int (1 : Int32)), .val (.int a1), .val (.int (0 : Int32)), .val (.int (0 : Int32)), .val (.ref ad2), .val (.ref ad8), .val (.int kk), .val (.int qv), .unset, .unset] [(.int (1 : Int32))])) (fun t stp => XS.iload Xj14.here hx rfl (hb hby at_226) rfl stp) ?_
        refine own_up (S' := Tj14.setTop (mkF m 229 #[.val (.int a1), .val (.int b1), .val (.int c1), .val (.int x1), .val (.int se), .val (.int (1 : Int32)), .val (.int a1), .val (.int (0 : Int32)), .val (.int (0 : Int32)), .val (.ref ad2), .val (.ref ad8), .val (.int kk), .val (.int qv), .unset, .unset] [(.int (2 : Int32)), (.int (1 : Int32))])) (fun t stp => XT.iconstV Xj14.here hx rfl (2 : Int32) (hb hby at_228) rfl stp) ?_
        have hc229_24 : (1 : Int32) < (2 : Int32) := by decide
        refine own_up (S' := Tj14.setTop (mkF m 239 #[.val (.int a1), .val (.int b1), .val (.int c1), .val (.int x1), .val (.int se), .val (.int (1 : Int32)), .val (.int a1), .val (.int (0 : Int32)), .val (.int (0 : Int32)), .val (.ref ad2), .val (.ref ad8), .val (.int kk), .val (.int qv), .unset, .unset] [])) (fun t stp => XS.icmpYes Xj14.here hx rfl (pc0 := 229) (pc' := 239) rfl (hb hby at_229) rfl (XT.ii_lt_t hc229_24) (by decide) (by decide) stp) ?_
        refine own_up (S' := Tj14.setTop (mkF m 241 #[.val (.int a1), .val (.int b1), .val (.int c1), .val (.int x1), .val (.int se), .val (.int (1 : Int32)), .val (.int a1), .val (.int (0 : Int32)), .val (.int (0 : Int32)), .val (.ref ad2), .val (.ref ad8), .val (.int kk), .val (.int qv), .unset, .unset] [(.int (1 : Int32))])) (fun t stp => XS.iload Xj14.here hx rfl (hb hby at_239) rfl stp) ?_
        refine own_up (S' := Tj14.setTop (mkF m 242 #[.val (.int a1), .val (.int b1), .val (.int c1), .val (.int x1), .val (.int se), .val (.int (1 : Int32)), .val (.int a1), .val (.int (0 : Int32)), .val (.int (0 : Int32)), .val (.ref ad2), .val (.ref ad8), .val (.int kk), .val (.int qv), .unset, .unset] [(.int (3 : Int32)), (.int (1 : Int32))])) (fun t stp => XT.iconstV Xj14.here hx rfl (3 : Int32) (hb hby at_241) rfl stp) ?_
        have hc242_25 : (1 : Int32) < (3 : Int32) := by decide
        refine own_up (S' := Tj14.setTop (mkF m 256 #[.val (.int a1), .val (.int b1), .val (.int c1), .val (.int x1), .val (.int se), .val (.int (1 : Int32)), .val (.int a1), .val (.int (0 : Int32)), .val (.int (0 : Int32)), .val (.ref ad2), .val (.ref ad8), .val (.int kk), .val (.int qv), .unset, .unset] [])) (fun t stp => XS.icmpYes Xj14.here hx rfl (pc0 := 242) (pc' := 256) rfl (hb hby at_242) rfl (XT.ii_lt_t hc242_25) (by decide) (by decide) stp) ?_
        refine own_up (S' := Tj14.setTop (mkF m 257 #[.val (.int a1), .val (.int b1), .val (.int c1), .val (.int x1), .val (.int se), .val (.int (1 : Int32)), .val (.int a1), .val (.int (0 : Int32)), .val (.int (0 : Int32)), .val (.ref ad2), .val (.ref ad8), .val (.int kk), .val (.int qv), .unset, .unset] [(.int (0 : Int32))])) (fun t stp => XT.iconstV Xj14.here hx rfl (0 : Int32) (hb hby at_256) rfl stp) ?_
        refine own_up (S' := Tj14.setTop (mkF m 259 #[.val (.int a1), .val (.int b1), .val (.int c1), .val (.int x1), .val (.int se), .val (.int (1 : Int32)), .val (.int a1), .val (.int (0 : Int32)), .val (.int (0 : Int32)), .val (.ref ad2), .val (.ref ad8), .val (.int kk), .val (.int qv), .val (.int (0 : Int32)), .unset] [])) (fun t stp => XS.istore Xj14.here hx rfl (hb hby at_257) rfl (l' := #[.val (.int a1), .val (.int b1), .val (.int c1), .val (.int x1), .val (.int se), .val (.int (1 : Int32)), .val (.int a1), .val (.int (0 : Int32)), .val (.int (0 : Int32)), .val (.ref ad2), .val (.ref ad8), .val (.int kk), .val (.int qv), .val (.int (0 : Int32)), .unset]) rfl stp) ?_
        refine own_new Xj14 hx hZ hown (hw _ (List.mem_of_getElem? (i := 1) rfl)) (hw _ (List.mem_of_getElem? (i := 2) rfl)) (hw _ (List.mem_of_getElem? (i := 3) rfl)) ej14 rfl (hb hby at_259) (by decide) (by decide) ?_
        intro T26 h26 ob hb26 X26 e26 E26 A26 D26
        have ne26_ad2_ob : ad2 ≠ ob := Nat.ne_of_lt (Nat.lt_of_lt_of_eq (own_Al_lt Al5_13) hb26.symm)
        have ne26_ad8_ob : ad8 ≠ ob := Nat.ne_of_lt (Nat.lt_of_lt_of_eq (own_Al_lt Al11) hb26.symm)
        have g_ob : n0 ≤ ob := Nat.le_trans Zn12 (Nat.le_of_eq hb26.symm)
        have Zn27 := Nat.le_trans Zn12 E26.1
        have Al5_28 := own_Al_ext E26 Al5_13
        have Al11_28 := own_Al_ext E26 Al11
        have Ffields_ob : Fld Z h26 ob "com/example/kinglet/kinglet/index/Occurrences" "fields" "[I" .null := D26 (Or.inr (hw _ (List.mem_of_getElem? (i := 11) rfl))) (ty := (.array .int)) (by decide)
        have Fpositions_ob : Fld Z h26 ob "com/example/kinglet/kinglet/index/Occurrences" "positions" "[I" .null := D26 (Or.inr (hw _ (List.mem_of_getElem? (i := 13) rfl))) (ty := (.array .int)) (by decide)
        show own_Ends p e below s (own_Q0 Z a1 b1 c1 x1 se h0 n0) room_1.cells room_1.slots (T26.setTop (mkF m 262 #[.val (.int a1), .val (.int b1), .val (.int c1), .val (.int x1), .val (.int se), .val (.int (1 : Int32)), .val (.int a1), .val (.int (0 : Int32)), .val (.int (0 : Int32)), .val (.ref ad2), .val (.ref ad8), .val (.int kk), .val (.int qv), .val (.int (0 : Int32)), .unset] [(.ref ob)]))
        refine own_up (S' := T26.setTop (mkF m 263 #[.val (.int a1), .val (.int b1), .val (.int c1), .val (.int x1), .val (.int se), .val (.int (1 : Int32)), .val (.int a1), .val (.int (0 : Int32)), .val (.int (0 : Int32)), .val (.ref ad2), .val (.ref ad8), .val (.int kk), .val (.int qv), .val (.int (0 : Int32)), .unset] [(.ref ob), (.ref ob)])) (fun t stp => XS.dup X26.here hx rfl (hb hby at_262) rfl rfl stp) ?_
        refine own_up (S' := T26.setTop (mkF m 265 #[.val (.int a1), .val (.int b1), .val (.int c1), .val (.int x1), .val (.int se), .val (.int (1 : Int32)), .val (.int a1), .val (.int (0 : Int32)), .val (.int (0 : Int32)), .val (.ref ad2), .val (.ref ad8), .val (.int kk), .val (.int qv), .val (.int (0 : Int32)), .unset] [(.ref ad2), (.ref ob), (.ref ob)])) (fun t stp => XS.aload X26.here hx rfl (hb hby at_263) rfl rfl stp) ?_
        refine own_up (S' := T26.setTop (mkF m 267 #[.val (.int a1), .val (.int b1), .val (.int c1), .val (.int x1), .val (.int se), .val (.int (1 : Int32)), .val (.int a1), .val (.int (0 : Int32)), .val (.int (0 : Int32)), .val (.ref ad2), .val (.ref ad8), .val (.int kk), .val (.int qv), .val (.int (0 : Int32)), .unset] [(.ref ad8), (.ref ad2), (.ref ob), (.ref ob)])) (fun t stp => XS.aload X26.here hx rfl (hb hby at_265) rfl rfl stp) ?_
        refine own_callI X26 hx hZ rfl hown (hw _ (List.mem_of_getElem? (i := 4) rfl)) (hw _ (List.mem_of_getElem? (i := 5) rfl)) (hw _ (List.mem_of_getElem? (i := 3) rfl)) (hw _ (List.mem_of_getElem? (i := 6) rfl)) (by decide) e26 (rm1 l Z a0 hw [] ob ad2 ad8 h26 n0 Zn27 Ffields_ob Fpositions_ob A26 g_ob) 1 ob [(.ref ad2), (.ref ad8)] [(.ref ob)] (hb hby at_267) (lenOf own_pd0 rfl) (by decide) (by decide) (by decide) (by decide) rfl (by rw [hml]; rfl) rfl (by show 2 * 0 + _ ≤ _; exact Nat.le_of_eq rfl) rfl ?_
        intro T29 L29 r29 X29 q29
        obtain ⟨rfl, M29, K29, G29a_29, G29b_29⟩ := q29
        have N29 := Fr.app Nj14 M29
        have Zn30 := Nat.le_trans Zn27 K29.1
        have Al5_31 := own_Al_keep K29 Al5_28 (ninS ne26_ad2_ob nin0)
        have Al11_31 := own_Al_keep K29 Al11_28 (ninS ne26_ad8_ob nin0)
        have A26_31 := A26.keep K29
        show own_Ends p e below s (own_Q0 Z a1 b1 c1 x1 se h0 n0) room_1.cells room_1.slots (T29.setTop (mkF m 270 #[.val (.int a1), .val (.int b1), .val (.int c1), .val (.int x1), .val (.int se), .val (.int (1 : Int32)), .val (.int a1), .val (.int (0 : Int32)), .val (.int (0 : Int32)), .val (.ref ad2), .val (.ref ad8), .val (.int kk), .val (.int qv), .val (.int (0 : Int32)), .unset] [(.ref ob)]))
        refine own_up (S' := T29.setTop (mkF m 272 #[.val (.int a1), .val (.int b1), .val (.int c1), .val (.int x1), .val (.int se), .val (.int (1 : Int32)), .val (.int a1), .val (.int (0 : Int32)), .val (.int (0 : Int32)), .val (.ref ad2), .val (.ref ad8), .val (.int kk), .val (.int qv), .val (.int (0 : Int32)), .val (.ref ob)] [])) (fun t stp => XS.astore X29.here hx rfl (hb hby at_270) rfl rfl (l' := #[.val (.int a1), .val (.int b1), .val (.int c1), .val (.int x1), .val (.int se), .val (.int (1 : Int32)), .val (.int a1), .val (.int (0 : Int32)), .val (.int (0 : Int32)), .val (.ref ad2), .val (.ref ad8), .val (.int kk), .val (.int qv), .val (.int (0 : Int32)), .val (.ref ob)]) rfl stp) ?_
        refine own_up (S' := T29.setTop (mkF m 274 #[.val (.int a1), .val (.int b1), .val (.int c1), .val (.int x1), .val (.int se), .val (.int (1 : Int32)), .val (.int a1), .val (.int (0 : Int32)), .val (.int (0 : Int32)), .val (.ref ad2), .val (.ref ad8), .val (.int kk), .val (.int qv), .val (.int (0 : Int32)), .val (.ref ob)] [(.ref ob)])) (fun t stp => XS.aload X29.here hx rfl (hb hby at_272) rfl rfl stp) ?_
        refine own_up (S' := T29.setTop (mkF m 276 #[.val (.int a1), .val (.int b1), .val (.int c1), .val (.int x1), .val (.int se), .val (.int (1 : Int32)), .val (.int a1), .val (.int (0 : Int32)), .val (.int (0 : Int32)), .val (.ref ad2), .val (.ref ad8), .val (.int kk), .val (.int qv), .val (.int (0 : Int32)), .val (.ref ob)] [(.int qv), (.ref ob)])) (fun t stp => XS.iload X29.here hx rfl (hb hby at_274) rfl stp) ?_
        refine own_callV X29 hx hZ hown (hw _ (List.mem_of_getElem? (i := 14) rfl)) (hw _ (List.mem_of_getElem? (i := 15) rfl)) (hw _ (List.mem_of_getElem? (i := 17) rfl)) (hw _ (List.mem_of_getElem? (i := 16) rfl)) (hw _ (List.mem_of_getElem? (i := 3) rfl)) (hw _ (List.mem_of_getElem? (i := 18) rfl)) (by decide) rfl (rm11 l Z a0 hw [] ob qv ad2 a1 T29.heap n0 Zn30 G29a_29 Al5_31) 0 A26_31 [(.int qv)] [] (hb hby at_276) (lenOf own_pd1 rfl) (by decide) (by decide) (by decide) (by decide) rfl (by rw [hml]; rfl) rfl (by show 2 * 0 + _ ≤ _; exact Nat.le_of_eq rfl) rfl ?_
        intro T32 L32 r32 X32 q32
        obtain ⟨rfl, M32, e32⟩ := q32
        have N32 := Fr.app N29 M32
        show own_Ends p e below s (own_Q0 Z a1 b1 c1 x1 se h0 n0) room_1.cells room_1.slots (T32.setTop (mkF m 279 #[.val (.int a1), .val (.int b1), .val (.int c1), .val (.int x1), .val (.int se), .val (.int (1 : Int32)), .val (.int a1), .val (.int (0 : Int32)), .val (.int (0 : Int32)), .val (.ref ad2), .val (.ref ad8), .val (.int kk), .val (.int qv), .val (.int (0 : Int32)), .val (.ref ob)] [(.int (if a1 = qv then (1 : Int32) else (0 : Int32)))]))
        refine own_up (S' := T32.setTop (mkF m 281 #[.val (.int a1), .val (.int b1), .val (.int c1), .val (.int x1), .val (.int se), .val (.int (1 : Int32)), .val (.int a1), .val (.int (0 : Int32)), .val (.int (0 : Int32)), .val (.ref ad2), .val (.ref ad8), .val (.int kk), .val (.int qv), .val (.int (0 : Int32)), .val (.ref ob)] [(.int (0 : Int32)), (.int (if a1 = qv then (1 : Int32) else (0 : Int32)))])) (fun t stp => XS.iload X32.here hx rfl (hb hby at_279) rfl stp) ?_
        have hc281_33 : (if a1 = qv then (1 : Int32) else (0 : Int32)) = (0 : Int32) := by simp [Ne.symm hc223_15]
        have ihc281_33 : (if a1 = qv then (1 : Int32) else (0 : Int32)).toInt = 0 := own_ieq hc281_33
        refine own_up (S' := T32.setTop (mkF m 284 #[.val (.int a1), .val (.int b1), .val (.int c1), .val (.int x1), .val (.int se), .val (.int (1 : Int32)), .val (.int a1), .val (.int (0 : Int32)), .val (.int (0 : Int32)), .val (.ref ad2), .val (.ref ad8), .val (.int kk), .val (.int qv), .val (.int (0 : Int32)), .val (.ref ob)] [])) (fun t stp => XS.icmpNo X32.here hx rfl (hb hby at_281) rfl (XT.ii_ne_f hc281_33) stp) ?_
        refine own_up (S' := T32.setTop (mkF m 285 #[.val (.int a1), .val (.int b1), .val (.int c1), .val (.int x1), .val (.int se), .val (.int (1 : Int32)), .val (.int a1), .val (.int (0 : Int32)), .val (.int (0 : Int32)), .val (.ref ad2), .val (.ref ad8), .val (.int kk), .val (.int qv), .val (.int (0 : Int32)), .val (.ref ob)] [(.int (1 : Int32))])) (fun t stp => XT.iconstV X32.here hx rfl (1 : Int32) (hb hby at_284) rfl stp) ?_
        refine own_up (S' := T32.setTop (mkF m 289 #[.val (.int a1), .val (.int b1), .val (.int c1), .val (.int x1), .val (.int se), .val (.int (1 : Int32)), .val (.int a1), .val (.int (0 : Int32)), .val (.int (0 : Int32)), .val (.ref ad2), .val (.ref ad8), .val (.int kk), .val (.int qv), .val (.int (0 : Int32)), .val (.ref ob)] [(.int (1 : Int32))])) (fun t stp => XS.goto X32.here hx rfl (pc0 := 285) (pc' := 289) rfl (hb hby at_285) (by decide) (by decide) stp) ?_
        refine own_retN X32 hx hlk (t := .boolean) hret (by simp) (z' := (1 : Int32)) rfl (hb hby at_289) (by decide) (by decide) ?_
        show own_Q0 Z a1 b1 c1 x1 se h0 n0 _ T32.heap _
        rw [e32]
        exact ⟨rfl, N32⟩
    refine own_up (S' := T11.setTop (mkF m 183 #[.val (.int a1), .val (.int b1), .val (.int c1), .val (.int x1), .val (.int se), .val (.int (1 : Int32)), .val (.int a1), .val (.int (0 : Int32)), .val (.int (0 : Int32)), .val (.ref ad2), .val (.ref ad8), .val (.int kk), .unset, .unset, .unset] [(.int kk)])) (fun t stp => XS.iload X11.here hx rfl (hb hby at_181) rfl stp) ?_
    by_cases hc183_34 : kk = 0
    · have ihc183_34 : kk.toInt = 0 := own_ieq hc183_34
      refine own_up (S' := T11.setTop (mkF m 186 #[.val (.int a1), .val (.int b1), .val (.int c1), .val (.int x1), .val (.int se), .val (.int (1 : Int32)), .val (.int a1), .val (.int (0 : Int32)), .val (.int (0 : Int32)), .val (.ref ad2), .val (.ref ad8), .val (.int kk), .unset, .unset, .unset] [])) (fun t stp => XS.ifNo X11.here hx rfl (hb hby at_183) rfl (XT.i0_ne_f hc183_34) stp) ?_
      refine own_up (S' := T11.setTop (mkF m 187 #[.val (.int a1), .val (.int b1), .val (.int c1), .val (.int x1), .val (.int se), .val (.int (1 : Int32)), .val (.int a1), .val (.int (0 : Int32)), .val (.int (0 : Int32)), .val (.ref ad2), .val (.ref ad8), .val (.int kk), .unset, .unset, .unset] [(.int x1)])) (fun t stp => XS.iloadN X11.here hx rfl (hb hby at_186) rfl stp) ?_
      refine own_up (S' := T11.setTop (mkF m 189 #[.val (.int a1), .val (.int b1), .val (.int c1), .val (.int x1), .val (.int se), .val (.int (1 : Int32)), .val (.int a1), .val (.int (0 : Int32)), .val (.int (0 : Int32)), .val (.ref ad2), .val (.ref ad8), .val (.int kk), .val (.int x1), .unset, .unset] [])) (fun t stp => XS.istore X11.here hx rfl (hb hby at_187) rfl (l' := #[.val (.int a1), .val (.int b1), .val (.int c1), .val (.int x1), .val (.int se), .val (.int (1 : Int32)), .val (.int a1), .val (.int (0 : Int32)), .val (.int (0 : Int32)), .val (.ref ad2), .val (.ref ad8), .val (.int kk), .val (.int x1), .unset, .unset]) rfl stp) ?_
      refine own_up (S' := T11.setTop (mkF m 219 #[.val (.int a1), .val (.int b1), .val (.int c1), .val (.int x1), .val (.int se), .val (.int (1 : Int32)), .val (.int a1), .val (.int (0 : Int32)), .val (.int (0 : Int32)), .val (.ref ad2), .val (.ref ad8), .val (.int kk), .val (.int x1), .unset, .unset] [])) (fun t stp => XS.goto X11.here hx rfl (pc0 := 189) (pc' := 219) rfl (hb hby at_189) (by decide) (by decide) stp) ?_
      exact J219_14 x1 _ N11 T11 X11 e11
    · have ihc183_34 : kk.toInt ≠ 0 := own_ine hc183_34
      refine own_up (S' := T11.setTop (mkF m 192 #[.val (.int a1), .val (.int b1), .val (.int c1), .val (.int x1), .val (.int se), .val (.int (1 : Int32)), .val (.int a1), .val (.int (0 : Int32)), .val (.int (0 : Int32)), .val (.ref ad2), .val (.ref ad8), .val (.int kk), .unset, .unset, .unset] [])) (fun t stp => XS.ifYes X11.here hx rfl (pc0 := 183) (pc' := 192) rfl (hb hby at_183) rfl (XT.i0_ne_t hc183_34) (by decide) (by decide) stp) ?_
      refine own_up (S' := T11.setTop (mkF m 194 #[.val (.int a1), .val (.int b1), .val (.int c1), .val (.int x1), .val (.int se), .val (.int (1 : Int32)), .val (.int a1), .val (.int (0 : Int32)), .val (.int (0 : Int32)), .val (.ref ad2), .val (.ref ad8), .val (.int kk), .unset, .unset, .unset] [(.int kk)])) (fun t stp => XS.iload X11.here hx rfl (hb hby at_192) rfl stp) ?_
      refine own_up (S' := T11.setTop (mkF m 195 #[.val (.int a1), .val (.int b1), .val (.int c1), .val (.int x1), .val (.int se), .val (.int (1 : Int32)), .val (.int a1), .val (.int (0 : Int32)), .val (.int (0 : Int32)), .val (.ref ad2), .val (.ref ad8), .val (.int kk), .unset, .unset, .unset] [(.int (1 : Int32)), (.int kk)])) (fun t stp => XT.iconstV X11.here hx rfl (1 : Int32) (hb hby at_194) rfl stp) ?_
      by_cases hc195_35 : kk = (1 : Int32)
      · have ihc195_35 : kk.toInt = 1 := own_ieq hc195_35
        refine own_up (S' := T11.setTop (mkF m 198 #[.val (.int a1), .val (.int b1), .val (.int c1), .val (.int x1), .val (.int se), .val (.int (1 : Int32)), .val (.int a1), .val (.int (0 : Int32)), .val (.int (0 : Int32)), .val (.ref ad2), .val (.ref ad8), .val (.int kk), .unset, .unset, .unset] [])) (fun t stp => XS.icmpNo X11.here hx rfl (hb hby at_195) rfl (XT.ii_ne_f hc195_35) stp) ?_
        refine own_up (S' := T11.setTop (mkF m 199 #[.val (.int a1), .val (.int b1), .val (.int c1), .val (.int x1), .val (.int se), .val (.int (1 : Int32)), .val (.int a1), .val (.int (0 : Int32)), .val (.int (0 : Int32)), .val (.ref ad2), .val (.ref ad8), .val (.int kk), .unset, .unset, .unset] [(.int a1)])) (fun t stp => XS.iloadN X11.here hx rfl (hb hby at_198) rfl stp) ?_
        refine own_up (S' := T11.setTop (mkF m 201 #[.val (.int a1), .val (.int b1), .val (.int c1), .val (.int x1), .val (.int se), .val (.int (1 : Int32)), .val (.int a1), .val (.int (0 : Int32)), .val (.int (0 : Int32)), .val (.ref ad2), .val (.ref ad8), .val (.int kk), .val (.int a1), .unset, .unset] [])) (fun t stp => XS.istore X11.here hx rfl (hb hby at_199) rfl (l' := #[.val (.int a1), .val (.int b1), .val (.int c1), .val (.int x1), .val (.int se), .val (.int (1 : Int32)), .val (.int a1), .val (.int (0 : Int32)), .val (.int (0 : Int32)), .val (.ref ad2), .val (.ref ad8), .val (.int kk), .val (.int a1), .unset, .unset]) rfl stp) ?_
        refine own_up (S' := T11.setTop (mkF m 219 #[.val (.int a1), .val (.int b1), .val (.int c1), .val (.int x1), .val (.int se), .val (.int (1 : Int32)), .val (.int a1), .val (.int (0 : Int32)), .val (.int (0 : Int32)), .val (.ref ad2), .val (.ref ad8), .val (.int kk), .val (.int a1), .unset, .unset] [])) (fun t stp => XS.goto X11.here hx rfl (pc0 := 201) (pc' := 219) rfl (hb hby at_201) (by decide) (by decide) stp) ?_
        exact J219_14 a1 _ N11 T11 X11 e11
      · have ihc195_35 : kk.toInt ≠ 1 := own_ine hc195_35
        refine own_up (S' := T11.setTop (mkF m 204 #[.val (.int a1), .val (.int b1), .val (.int c1), .val (.int x1), .val (.int se), .val (.int (1 : Int32)), .val (.int a1), .val (.int (0 : Int32)), .val (.int (0 : Int32)), .val (.ref ad2), .val (.ref ad8), .val (.int kk), .unset, .unset, .unset] [])) (fun t stp => XS.icmpYes X11.here hx rfl (pc0 := 195) (pc' := 204) rfl (hb hby at_195) rfl (XT.ii_ne_t hc195_35) (by decide) (by decide) stp) ?_
        refine own_up (S' := T11.setTop (mkF m 206 #[.val (.int a1), .val (.int b1), .val (.int c1), .val (.int x1), .val (.int se), .val (.int (1 : Int32)), .val (.int a1), .val (.int (0 : Int32)), .val (.int (0 : Int32)), .val (.ref ad2), .val (.ref ad8), .val (.int kk), .unset, .unset, .unset] [(.int kk)])) (fun t stp => XS.iload X11.here hx rfl (hb hby at_204) rfl stp) ?_
        refine own_up (S' := T11.setTop (mkF m 207 #[.val (.int a1), .val (.int b1), .val (.int c1), .val (.int x1), .val (.int se), .val (.int (1 : Int32)), .val (.int a1), .val (.int (0 : Int32)), .val (.int (0 : Int32)), .val (.ref ad2), .val (.ref ad8), .val (.int kk), .unset, .unset, .unset] [(.int (2 : Int32)), (.int kk)])) (fun t stp => XT.iconstV X11.here hx rfl (2 : Int32) (hb hby at_206) rfl stp) ?_
        by_cases hc207_36 : kk = (2 : Int32)
        · have ihc207_36 : kk.toInt = 2 := own_ieq hc207_36
          refine own_up (S' := T11.setTop (mkF m 210 #[.val (.int a1), .val (.int b1), .val (.int c1), .val (.int x1), .val (.int se), .val (.int (1 : Int32)), .val (.int a1), .val (.int (0 : Int32)), .val (.int (0 : Int32)), .val (.ref ad2), .val (.ref ad8), .val (.int kk), .unset, .unset, .unset] [])) (fun t stp => XS.icmpNo X11.here hx rfl (hb hby at_207) rfl (XT.ii_ne_f hc207_36) stp) ?_
          refine own_up (S' := T11.setTop (mkF m 211 #[.val (.int a1), .val (.int b1), .val (.int c1), .val (.int x1), .val (.int se), .val (.int (1 : Int32)), .val (.int a1), .val (.int (0 : Int32)), .val (.int (0 : Int32)), .val (.ref ad2), .val (.ref ad8), .val (.int kk), .unset, .unset, .unset] [(.int b1)])) (fun t stp => XS.iloadN X11.here hx rfl (hb hby at_210) rfl stp) ?_
          refine own_up (S' := T11.setTop (mkF m 213 #[.val (.int a1), .val (.int b1), .val (.int c1), .val (.int x1), .val (.int se), .val (.int (1 : Int32)), .val (.int a1), .val (.int (0 : Int32)), .val (.int (0 : Int32)), .val (.ref ad2), .val (.ref ad8), .val (.int kk), .val (.int b1), .unset, .unset] [])) (fun t stp => XS.istore X11.here hx rfl (hb hby at_211) rfl (l' := #[.val (.int a1), .val (.int b1), .val (.int c1), .val (.int x1), .val (.int se), .val (.int (1 : Int32)), .val (.int a1), .val (.int (0 : Int32)), .val (.int (0 : Int32)), .val (.ref ad2), .val (.ref ad8), .val (.int kk), .val (.int b1), .unset, .unset]) rfl stp) ?_
          refine own_up (S' := T11.setTop (mkF m 219 #[.val (.int a1), .val (.int b1), .val (.int c1), .val (.int x1), .val (.int se), .val (.int (1 : Int32)), .val (.int a1), .val (.int (0 : Int32)), .val (.int (0 : Int32)), .val (.ref ad2), .val (.ref ad8), .val (.int kk), .val (.int b1), .unset, .unset] [])) (fun t stp => XS.goto X11.here hx rfl (pc0 := 213) (pc' := 219) rfl (hb hby at_213) (by decide) (by decide) stp) ?_
          exact J219_14 b1 _ N11 T11 X11 e11
        · have ihc207_36 : kk.toInt ≠ 2 := own_ine hc207_36
          refine own_up (S' := T11.setTop (mkF m 216 #[.val (.int a1), .val (.int b1), .val (.int c1), .val (.int x1), .val (.int se), .val (.int (1 : Int32)), .val (.int a1), .val (.int (0 : Int32)), .val (.int (0 : Int32)), .val (.ref ad2), .val (.ref ad8), .val (.int kk), .unset, .unset, .unset] [])) (fun t stp => XS.icmpYes X11.here hx rfl (pc0 := 207) (pc' := 216) rfl (hb hby at_207) rfl (XT.ii_ne_t hc207_36) (by decide) (by decide) stp) ?_
          refine own_up (S' := T11.setTop (mkF m 217 #[.val (.int a1), .val (.int b1), .val (.int c1), .val (.int x1), .val (.int se), .val (.int (1 : Int32)), .val (.int a1), .val (.int (0 : Int32)), .val (.int (0 : Int32)), .val (.ref ad2), .val (.ref ad8), .val (.int kk), .unset, .unset, .unset] [(.int c1)])) (fun t stp => XS.iloadN X11.here hx rfl (hb hby at_216) rfl stp) ?_
          refine own_up (S' := T11.setTop (mkF m 219 #[.val (.int a1), .val (.int b1), .val (.int c1), .val (.int x1), .val (.int se), .val (.int (1 : Int32)), .val (.int a1), .val (.int (0 : Int32)), .val (.int (0 : Int32)), .val (.ref ad2), .val (.ref ad8), .val (.int kk), .val (.int c1), .unset, .unset] [])) (fun t stp => XS.istore X11.here hx rfl (hb hby at_217) rfl (l' := #[.val (.int a1), .val (.int b1), .val (.int c1), .val (.int x1), .val (.int se), .val (.int (1 : Int32)), .val (.int a1), .val (.int (0 : Int32)), .val (.int (0 : Int32)), .val (.ref ad2), .val (.ref ad8), .val (.int kk), .val (.int c1), .unset, .unset]) rfl stp) ?_
          exact J219_14 c1 _ N11 T11 X11 e11
  · refine own_up (S' := T0.setTop (mkF m 12 #[.val (.int a1), .val (.int b1), .val (.int c1), .val (.int x1), .val (.int se), .val (.int (2 : Int32)), .unset, .unset, .unset, .unset, .unset, .unset, .unset, .unset, .unset] [(.int (2 : Int32))])) (fun t stp => XS.iload X0.here hx rfl (hb hby at_10) rfl stp) ?_
    refine own_up (S' := T0.setTop (mkF m 13 #[.val (.int a1), .val (.int b1), .val (.int c1), .val (.int x1), .val (.int se), .val (.int (2 : Int32)), .unset, .unset, .unset, .unset, .unset, .unset, .unset, .unset, .unset] [(.int (1 : Int32)), (.int (2 : Int32))])) (fun t stp => XT.iconstV X0.here hx rfl (1 : Int32) (hb hby at_12) rfl stp) ?_
    have hc13_37 : ¬ ((2 : Int32) = (1 : Int32)) := by decide
    refine own_up (S' := T0.setTop (mkF m 47 #[.val (.int a1), .val (.int b1), .val (.int c1), .val (.int x1), .val (.int se), .val (.int (2 : Int32)), .unset, .unset, .unset, .unset, .unset, .unset, .unset, .unset, .unset] [])) (fun t stp => XS.icmpYes X0.here hx rfl (pc0 := 13) (pc' := 47) rfl (hb hby at_13) rfl (XT.ii_ne_t hc13_37) (by decide) (by decide) stp) ?_
    refine own_up (S' := T0.setTop (mkF m 49 #[.val (.int a1), .val (.int b1), .val (.int c1), .val (.int x1), .val (.int se), .val (.int (2 : Int32)), .unset, .unset, .unset, .unset, .unset, .unset, .unset, .unset, .unset] [(.int (2 : Int32))])) (fun t stp => XS.iload X0.here hx rfl (hb hby at_47) rfl stp) ?_
    refine own_up (S' := T0.setTop (mkF m 50 #[.val (.int a1), .val (.int b1), .val (.int c1), .val (.int x1), .val (.int se), .val (.int (2 : Int32)), .unset, .unset, .unset, .unset, .unset, .unset, .unset, .unset, .unset] [(.int (2 : Int32)), (.int (2 : Int32))])) (fun t stp => XT.iconstV X0.here hx rfl (2 : Int32) (hb hby at_49) rfl stp) ?_
    have hc50_38 : (2 : Int32) = (2 : Int32) := rfl
    refine own_up (S' := T0.setTop (mkF m 53 #[.val (.int a1), .val (.int b1), .val (.int c1), .val (.int x1), .val (.int se), .val (.int (2 : Int32)), .unset, .unset, .unset, .unset, .unset, .unset, .unset, .unset, .unset] [])) (fun t stp => XS.icmpNo X0.here hx rfl (hb hby at_50) rfl (XT.ii_ne_f hc50_38) stp) ?_
    refine own_up (S' := T0.setTop (mkF m 54 #[.val (.int a1), .val (.int b1), .val (.int c1), .val (.int x1), .val (.int se), .val (.int (2 : Int32)), .unset, .unset, .unset, .unset, .unset, .unset, .unset, .unset, .unset] [(.int a1)])) (fun t stp => XS.iloadN X0.here hx rfl (hb hby at_53) rfl stp) ?_
    refine own_up (S' := T0.setTop (mkF m 55 #[.val (.int a1), .val (.int b1), .val (.int c1), .val (.int x1), .val (.int se), .val (.int (2 : Int32)), .unset, .unset, .unset, .unset, .unset, .unset, .unset, .unset, .unset] [(.int b1), (.int a1)])) (fun t stp => XS.iloadN X0.here hx rfl (hb hby at_54) rfl stp) ?_
    refine own_callS X0 hx hZ hown (hw _ (List.mem_of_getElem? (i := 19) rfl)) (hw _ (List.mem_of_getElem? (i := 20) rfl)) (hw _ (List.mem_of_getElem? (i := 21) rfl)) (hw _ (List.mem_of_getElem? (i := 22) rfl)) (by decide) e0 (rm2 l Z a0 hw [] a1 b1 h0 n0 Z0 ) 0 [(.int a1), (.int b1)] [] (hb hby at_55) (lenOf own_pd2 rfl) (by decide) (by decide) (by decide) (by decide) rfl (by rw [hml]; rfl) rfl (by show 2 * 0 + _ ≤ _; exact Nat.le_of_eq rfl) rfl ?_
    intro T39 L39 r39 X39 q39
    obtain ⟨f0, rfl, hr_f0, M39, e39⟩ := q39
    have N39 := Fr.app N0 M39
    show own_Ends p e below s (own_Q0 Z a1 b1 c1 x1 se h0 n0) room_1.cells room_1.slots (T39.setTop (mkF m 58 #[.val (.int a1), .val (.int b1), .val (.int c1), .val (.int x1), .val (.int se), .val (.int (2 : Int32)), .unset, .unset, .unset, .unset, .unset, .unset, .unset, .unset, .unset] [(.int f0)]))
    refine own_up (S' := T39.setTop (mkF m 60 #[.val (.int a1), .val (.int b1), .val (.int c1), .val (.int x1), .val (.int se), .val (.int (2 : Int32)), .val (.int f0), .unset, .unset, .unset, .unset, .unset, .unset, .unset, .unset] [])) (fun t stp => XS.istore X39.here hx rfl (hb hby at_58) rfl (l' := #[.val (.int a1), .val (.int b1), .val (.int c1), .val (.int x1), .val (.int se), .val (.int (2 : Int32)), .val (.int f0), .unset, .unset, .unset, .unset, .unset, .unset, .unset, .unset]) rfl stp) ?_
    refine own_up (S' := T39.setTop (mkF m 61 #[.val (.int a1), .val (.int b1), .val (.int c1), .val (.int x1), .val (.int se), .val (.int (2 : Int32)), .val (.int f0), .unset, .unset, .unset, .unset, .unset, .unset, .unset, .unset] [(.int a1)])) (fun t stp => XS.iloadN X39.here hx rfl (hb hby at_60) rfl stp) ?_
    refine own_up (S' := T39.setTop (mkF m 62 #[.val (.int a1), .val (.int b1), .val (.int c1), .val (.int x1), .val (.int se), .val (.int (2 : Int32)), .val (.int f0), .unset, .unset, .unset, .unset, .unset, .unset, .unset, .unset] [(.int b1), (.int a1)])) (fun t stp => XS.iloadN X39.here hx rfl (hb hby at_61) rfl stp) ?_
    refine own_callS X39 hx hZ hown (hw _ (List.mem_of_getElem? (i := 23) rfl)) (hw _ (List.mem_of_getElem? (i := 24) rfl)) (hw _ (List.mem_of_getElem? (i := 21) rfl)) (hw _ (List.mem_of_getElem? (i := 25) rfl)) (by decide) e39 (rm3 l Z a0 hw [] a1 b1 h0 n0 Z0 ) 0 [(.int a1), (.int b1)] [] (hb hby at_62) (lenOf own_pd2 rfl) (by decide) (by decide) (by decide) (by decide) rfl (by rw [hml]; rfl) rfl (by show 2 * 0 + _ ≤ _; exact Nat.le_of_eq rfl) rfl ?_
    intro T40 L40 r40 X40 q40
    obtain ⟨f1, rfl, hr_f1, M40, e40⟩ := q40
    have N40 := Fr.app N39 M40
    show own_Ends p e below s (own_Q0 Z a1 b1 c1 x1 se h0 n0) room_1.cells room_1.slots (T40.setTop (mkF m 65 #[.val (.int a1), .val (.int b1), .val (.int c1), .val (.int x1), .val (.int se), .val (.int (2 : Int32)), .val (.int f0), .unset, .unset, .unset, .unset, .unset, .unset, .unset, .unset] [(.int f1)]))
    refine own_up (S' := T40.setTop (mkF m 67 #[.val (.int a1), .val (.int b1), .val (.int c1), .val (.int x1), .val (.int se), .val (.int (2 : Int32)), .val (.int f0), .val (.int f1), .unset, .unset, .unset, .unset, .unset, .unset, .unset] [])) (fun t stp => XS.istore X40.here hx rfl (hb hby at_65) rfl (l' := #[.val (.int a1), .val (.int b1), .val (.int c1), .val (.int x1), .val (.int se), .val (.int (2 : Int32)), .val (.int f0), .val (.int f1), .unset, .unset, .unset, .unset, .unset, .unset, .unset]) rfl stp) ?_
    refine own_up (S' := T40.setTop (mkF m 68 #[.val (.int a1), .val (.int b1), .val (.int c1), .val (.int x1), .val (.int se), .val (.int (2 : Int32)), .val (.int f0), .val (.int f1), .unset, .unset, .unset, .unset, .unset, .unset, .unset] [(.int (0 : Int32))])) (fun t stp => XT.iconstV X40.here hx rfl (0 : Int32) (hb hby at_67) rfl stp) ?_
    refine own_up (S' := T40.setTop (mkF m 70 #[.val (.int a1), .val (.int b1), .val (.int c1), .val (.int x1), .val (.int se), .val (.int (2 : Int32)), .val (.int f0), .val (.int f1), .val (.int (0 : Int32)), .unset, .unset, .unset, .unset, .unset, .unset] [])) (fun t stp => XS.istore X40.here hx rfl (hb hby at_68) rfl (l' := #[.val (.int a1), .val (.int b1), .val (.int c1), .val (.int x1), .val (.int se), .val (.int (2 : Int32)), .val (.int f0), .val (.int f1), .val (.int (0 : Int32)), .unset, .unset, .unset, .unset, .unset, .unset]) rfl stp) ?_
    refine own_up (S' := T40.setTop (mkF m 71 #[.val (.int a1), .val (.int b1), .val (.int c1), .val (.int x1), .val (.int se), .val (.int (2 : Int32)), .val (.int f0), .val (.int f1), .val (.int (0 : Int32)), .unset, .unset, .unset, .unset, .unset, .unset] [(.int (2 : Int32))])) (fun t stp => XT.iconstV X40.here hx rfl (2 : Int32) (hb hby at_70) rfl stp) ?_
    refine own_newa X40 hx hZ (ty := .int) rfl (hw _ (List.mem_of_getElem? (i := 0) rfl)) e40 2 (hb hby at_71) (rfl) 2 (by decide) (by decide) (by decide) (by decide) rfl rfl ?_
    intro T41 h41 ad41 hb41 X41 e41 E41 A41
    have g_ad41 : n0 ≤ ad41 := Nat.le_trans Z0 (Nat.le_of_eq hb41.symm)
    have Zn42 := Nat.le_trans Z0 E41.1
    have Al41 : own_Al Z h41 ad41 .int [(.int (0 : Int32)), (.int (0 : Int32))] := A41
    show own_Ends p e below s (own_Q0 Z a1 b1 c1 x1 se h0 n0) room_1.cells room_1.slots (T41.setTop (mkF m 73 #[.val (.int a1), .val (.int b1), .val (.int c1), .val (.int x1), .val (.int se), .val (.int (2 : Int32)), .val (.int f0), .val (.int f1), .val (.int (0 : Int32)), .unset, .unset, .unset, .unset, .unset, .unset] [(.ref ad41)]))
    refine own_up (S' := T41.setTop (mkF m 74 #[.val (.int a1), .val (.int b1), .val (.int c1), .val (.int x1), .val (.int se), .val (.int (2 : Int32)), .val (.int f0), .val (.int f1), .val (.int (0 : Int32)), .unset, .unset, .unset, .unset, .unset, .unset] [(.ref ad41), (.ref ad41)])) (fun t stp => XS.dup X41.here hx rfl (hb hby at_73) rfl rfl stp) ?_
    refine own_up (S' := T41.setTop (mkF m 75 #[.val (.int a1), .val (.int b1), .val (.int c1), .val (.int x1), .val (.int se), .val (.int (2 : Int32)), .val (.int f0), .val (.int f1), .val (.int (0 : Int32)), .unset, .unset, .unset, .unset, .unset, .unset] [(.int (0 : Int32)), (.ref ad41), (.ref ad41)])) (fun t stp => XT.iconstV X41.here hx rfl (0 : Int32) (hb hby at_74) rfl stp) ?_
    refine own_up (S' := T41.setTop (mkF m 77 #[.val (.int a1), .val (.int b1), .val (.int c1), .val (.int x1), .val (.int se), .val (.int (2 : Int32)), .val (.int f0), .val (.int f1), .val (.int (0 : Int32)), .unset, .unset, .unset, .unset, .unset, .unset] [(.int f0), (.int (0 : Int32)), (.ref ad41), (.ref ad41)])) (fun t stp => XS.iload X41.here hx rfl (hb hby at_75) rfl stp) ?_
    refine own_sti X41 hx hZ e41 Al41 0 (hb hby at_77) (rfl) (Nat.le_of_ble_eq_true rfl) rfl rfl (g' := (mkF m 78 #[.val (.int a1), .val (.int b1), .val (.int c1), .val (.int x1), .val (.int se), .val (.int (2 : Int32)), .val (.int f0), .val (.int f1), .val (.int (0 : Int32)), .unset, .unset, .unset, .unset, .unset, .unset] [(.ref ad41)])) rfl ?_
    intro T44 h44 X44 e44 W44 B44
    have Zn45 := Nat.le_trans Zn42 (Nat.le_of_eq W44.size.symm)
    have N44 := Fr.snoc X44 N40 g_ad41
    have Al44 : own_Al Z h44 ad41 .int [(.int f0), (.int (0 : Int32))] := B44
    refine own_up (S' := T44.setTop (mkF m 79 #[.val (.int a1), .val (.int b1), .val (.int c1), .val (.int x1), .val (.int se), .val (.int (2 : Int32)), .val (.int f0), .val (.int f1), .val (.int (0 : Int32)), .unset, .unset, .unset, .unset, .unset, .unset] [(.ref ad41), (.ref ad41)])) (fun t stp => XS.dup X44.here hx rfl (hb hby at_78) rfl rfl stp) ?_
    refine own_up (S' := T44.setTop (mkF m 80 #[.val (.int a1), .val (.int b1), .val (.int c1), .val (.int x1), .val (.int se), .val (.int (2 : Int32)), .val (.int f0), .val (.int f1), .val (.int (0 : Int32)), .unset, .unset, .unset, .unset, .unset, .unset] [(.int (1 : Int32)), (.ref ad41), (.ref ad41)])) (fun t stp => XT.iconstV X44.here hx rfl (1 : Int32) (hb hby at_79) rfl stp) ?_
    refine own_up (S' := T44.setTop (mkF m 82 #[.val (.int a1), .val (.int b1), .val (.int c1), .val (.int x1), .val (.int se), .val (.int (2 : Int32)), .val (.int f0), .val (.int f1), .val (.int (0 : Int32)), .unset, .unset, .unset, .unset, .unset, .unset] [(.int f1), (.int (1 : Int32)), (.ref ad41), (.ref ad41)])) (fun t stp => XS.iload X44.here hx rfl (hb hby at_80) rfl stp) ?_
    refine own_sti X44 hx hZ e44 Al44 1 (hb hby at_82) (rfl) (Nat.le_of_ble_eq_true rfl) rfl rfl (g' := (mkF m 83 #[.val (.int a1), .val (.int b1), .val (.int c1), .val (.int x1), .val (.int se), .val (.int (2 : Int32)), .val (.int f0), .val (.int f1), .val (.int (0 : Int32)), .unset, .unset, .unset, .unset, .unset, .unset] [(.ref ad41)])) rfl ?_
    intro T47 h47 X47 e47 W47 B47
    have Zn48 := Nat.le_trans Zn45 (Nat.le_of_eq W47.size.symm)
    have N47 := Fr.snoc X47 N44 g_ad41
    have Al47 : own_Al Z h47 ad41 .int [(.int f0), (.int f1)] := B47
    refine own_up (S' := T47.setTop (mkF m 85 #[.val (.int a1), .val (.int b1), .val (.int c1), .val (.int x1), .val (.int se), .val (.int (2 : Int32)), .val (.int f0), .val (.int f1), .val (.int (0 : Int32)), .val (.ref ad41), .unset, .unset, .unset, .unset, .unset] [])) (fun t stp => XS.astore X47.here hx rfl (hb hby at_83) rfl rfl (l' := #[.val (.int a1), .val (.int b1), .val (.int c1), .val (.int x1), .val (.int se), .val (.int (2 : Int32)), .val (.int f0), .val (.int f1), .val (.int (0 : Int32)), .val (.ref ad41), .unset, .unset, .unset, .unset, .unset]) rfl stp) ?_
    refine own_up (S' := T47.setTop (mkF m 86 #[.val (.int a1), .val (.int b1), .val (.int c1), .val (.int x1), .val (.int se), .val (.int (2 : Int32)), .val (.int f0), .val (.int f1), .val (.int (0 : Int32)), .val (.ref ad41), .unset, .unset, .unset, .unset, .unset] [(.int (2 : Int32))])) (fun t stp => XT.iconstV X47.here hx rfl (2 : Int32) (hb hby at_85) rfl stp) ?_
    refine own_newa X47 hx hZ (ty := .int) rfl (hw _ (List.mem_of_getElem? (i := 0) rfl)) e47 2 (hb hby at_86) (rfl) 2 (by decide) (by decide) (by decide) (by decide) rfl rfl ?_
    intro T50 h50 ad50 hb50 X50 e50 E50 A50
    have ne50_ad41_ad50 : ad41 ≠ ad50 := Nat.ne_of_lt (Nat.lt_of_lt_of_eq (own_Al_lt Al47) hb50.symm)
    have g_ad50 : n0 ≤ ad50 := Nat.le_trans Zn48 (Nat.le_of_eq hb50.symm)
    have Zn51 := Nat.le_trans Zn48 E50.1
    have Al47_52 := own_Al_ext E50 Al47
    have Al50 : own_Al Z h50 ad50 .int [(.int (0 : Int32)), (.int (0 : Int32))] := A50
    show own_Ends p e below s (own_Q0 Z a1 b1 c1 x1 se h0 n0) room_1.cells room_1.slots (T50.setTop (mkF m 88 #[.val (.int a1), .val (.int b1), .val (.int c1), .val (.int x1), .val (.int se), .val (.int (2 : Int32)), .val (.int f0), .val (.int f1), .val (.int (0 : Int32)), .val (.ref ad41), .unset, .unset, .unset, .unset, .unset] [(.ref ad50)]))
    refine own_up (S' := T50.setTop (mkF m 89 #[.val (.int a1), .val (.int b1), .val (.int c1), .val (.int x1), .val (.int se), .val (.int (2 : Int32)), .val (.int f0), .val (.int f1), .val (.int (0 : Int32)), .val (.ref ad41), .unset, .unset, .unset, .unset, .unset] [(.ref ad50), (.ref ad50)])) (fun t stp => XS.dup X50.here hx rfl (hb hby at_88) rfl rfl stp) ?_
    refine own_up (S' := T50.setTop (mkF m 90 #[.val (.int a1), .val (.int b1), .val (.int c1), .val (.int x1), .val (.int se), .val (.int (2 : Int32)), .val (.int f0), .val (.int f1), .val (.int (0 : Int32)), .val (.ref ad41), .unset, .unset, .unset, .unset, .unset] [(.int (0 : Int32)), (.ref ad50), (.ref ad50)])) (fun t stp => XT.iconstV X50.here hx rfl (0 : Int32) (hb hby at_89) rfl stp) ?_
    refine own_up (S' := T50.setTop (mkF m 91 #[.val (.int a1), .val (.int b1), .val (.int c1), .val (.int x1), .val (.int se), .val (.int (2 : Int32)), .val (.int f0), .val (.int f1), .val (.int (0 : Int32)), .val (.ref ad41), .unset, .unset, .unset, .unset, .unset] [(.int (0 : Int32)), (.int (0 : Int32)), (.ref ad50), (.ref ad50)])) (fun t stp => XT.iconstV X50.here hx rfl (0 : Int32) (hb hby at_90) rfl stp) ?_
    refine own_sti X50 hx hZ e50 Al50 0 (hb hby at_91) (rfl) (Nat.le_of_ble_eq_true rfl) rfl rfl (g' := (mkF m 92 #[.val (.int a1), .val (.int b1), .val (.int c1), .val (.int x1), .val (.int se), .val (.int (2 : Int32)), .val (.int f0), .val (.int f1), .val (.int (0 : Int32)), .val (.ref ad41), .unset, .unset, .unset, .unset, .unset] [(.ref ad50)])) rfl ?_
    intro T53 h53 X53 e53 W53 B53
    have Zn54 := Nat.le_trans Zn51 (Nat.le_of_eq W53.size.symm)
    have Al47_55 := own_Al_oth W53 Al47_52 ne50_ad41_ad50
    have N53 := Fr.snoc X53 N47 g_ad50
    have Al53 : own_Al Z h53 ad50 .int [(.int (0 : Int32)), (.int (0 : Int32))] := B53
    refine own_up (S' := T53.setTop (mkF m 93 #[.val (.int a1), .val (.int b1), .val (.int c1), .val (.int x1), .val (.int se), .val (.int (2 : Int32)), .val (.int f0), .val (.int f1), .val (.int (0 : Int32)), .val (.ref ad41), .unset, .unset, .unset, .unset, .unset] [(.ref ad50), (.ref ad50)])) (fun t stp => XS.dup X53.here hx rfl (hb hby at_92) rfl rfl stp) ?_
    refine own_up (S' := T53.setTop (mkF m 94 #[.val (.int a1), .val (.int b1), .val (.int c1), .val (.int x1), .val (.int se), .val (.int (2 : Int32)), .val (.int f0), .val (.int f1), .val (.int (0 : Int32)), .val (.ref ad41), .unset, .unset, .unset, .unset, .unset] [(.int (1 : Int32)), (.ref ad50), (.ref ad50)])) (fun t stp => XT.iconstV X53.here hx rfl (1 : Int32) (hb hby at_93) rfl stp) ?_
    refine own_up (S' := T53.setTop (mkF m 95 #[.val (.int a1), .val (.int b1), .val (.int c1), .val (.int x1), .val (.int se), .val (.int (2 : Int32)), .val (.int f0), .val (.int f1), .val (.int (0 : Int32)), .val (.ref ad41), .unset, .unset, .unset, .unset, .unset] [(.int (1 : Int32)), (.int (1 : Int32)), (.ref ad50), (.ref ad50)])) (fun t stp => XT.iconstV X53.here hx rfl (1 : Int32) (hb hby at_94) rfl stp) ?_
    refine own_sti X53 hx hZ e53 Al53 1 (hb hby at_95) (rfl) (Nat.le_of_ble_eq_true rfl) rfl rfl (g' := (mkF m 96 #[.val (.int a1), .val (.int b1), .val (.int c1), .val (.int x1), .val (.int se), .val (.int (2 : Int32)), .val (.int f0), .val (.int f1), .val (.int (0 : Int32)), .val (.ref ad41), .unset, .unset, .unset, .unset, .unset] [(.ref ad50)])) rfl ?_
    intro T56 h56 X56 e56 W56 B56
    have Zn57 := Nat.le_trans Zn54 (Nat.le_of_eq W56.size.symm)
    have Al47_58 := own_Al_oth W56 Al47_55 ne50_ad41_ad50
    have N56 := Fr.snoc X56 N53 g_ad50
    have Al56 : own_Al Z h56 ad50 .int [(.int (0 : Int32)), (.int (1 : Int32))] := B56
    refine own_up (S' := T56.setTop (mkF m 98 #[.val (.int a1), .val (.int b1), .val (.int c1), .val (.int x1), .val (.int se), .val (.int (2 : Int32)), .val (.int f0), .val (.int f1), .val (.int (0 : Int32)), .val (.ref ad41), .val (.ref ad50), .unset, .unset, .unset, .unset] [])) (fun t stp => XS.astore X56.here hx rfl (hb hby at_96) rfl rfl (l' := #[.val (.int a1), .val (.int b1), .val (.int c1), .val (.int x1), .val (.int se), .val (.int (2 : Int32)), .val (.int f0), .val (.int f1), .val (.int (0 : Int32)), .val (.ref ad41), .val (.ref ad50), .unset, .unset, .unset, .unset]) rfl stp) ?_
    refine own_up (S' := T56.setTop (mkF m 173 #[.val (.int a1), .val (.int b1), .val (.int c1), .val (.int x1), .val (.int se), .val (.int (2 : Int32)), .val (.int f0), .val (.int f1), .val (.int (0 : Int32)), .val (.ref ad41), .val (.ref ad50), .unset, .unset, .unset, .unset] [])) (fun t stp => XS.goto X56.here hx rfl (pc0 := 98) (pc' := 173) rfl (hb hby at_98) (by decide) (by decide) stp) ?_
    refine own_up (S' := T56.setTop (mkF m 175 #[.val (.int a1), .val (.int b1), .val (.int c1), .val (.int x1), .val (.int se), .val (.int (2 : Int32)), .val (.int f0), .val (.int f1), .val (.int (0 : Int32)), .val (.ref ad41), .val (.ref ad50), .unset, .unset, .unset, .unset] [(.int se)])) (fun t stp => XS.iload X56.here hx rfl (hb hby at_173) rfl stp) ?_
    refine own_up (S' := T56.setTop (mkF m 176 #[.val (.int a1), .val (.int b1), .val (.int c1), .val (.int x1), .val (.int se), .val (.int (2 : Int32)), .val (.int f0), .val (.int f1), .val (.int (0 : Int32)), .val (.ref ad41), .val (.ref ad50), .unset, .unset, .unset, .unset] [(.int (2 : Int32)), (.int se)])) (fun t stp => XT.iconstV X56.here hx rfl (2 : Int32) (hb hby at_175) rfl stp) ?_
    refine own_up (S' := T56.setTop (mkF m 177 #[.val (.int a1), .val (.int b1), .val (.int c1), .val (.int x1), .val (.int se), .val (.int (2 : Int32)), .val (.int f0), .val (.int f1), .val (.int (0 : Int32)), .val (.ref ad41), .val (.ref ad50), .unset, .unset, .unset, .unset] [(.int (XT.ushr se (2 : Int32)))])) (fun t stp => XT.iushr X56.here hx rfl (hb hby at_176) rfl stp) ?_
    refine own_up (S' := T56.setTop (mkF m 178 #[.val (.int a1), .val (.int b1), .val (.int c1), .val (.int x1), .val (.int se), .val (.int (2 : Int32)), .val (.int f0), .val (.int f1), .val (.int (0 : Int32)), .val (.ref ad41), .val (.ref ad50), .unset, .unset, .unset, .unset] [(.int (3 : Int32)), (.int (XT.ushr se (2 : Int32)))])) (fun t stp => XT.iconstV X56.here hx rfl (3 : Int32) (hb hby at_177) rfl stp) ?_
    refine own_up (S' := T56.setTop (mkF m 179 #[.val (.int a1), .val (.int b1), .val (.int c1), .val (.int x1), .val (.int se), .val (.int (2 : Int32)), .val (.int f0), .val (.int f1), .val (.int (0 : Int32)), .val (.ref ad41), .val (.ref ad50), .unset, .unset, .unset, .unset] [(.int ((XT.ushr se (2 : Int32)) &&& (3 : Int32)))])) (fun t stp => XS.iand X56.here hx rfl (hb hby at_178) rfl stp) ?_
    obtain ⟨kk, h_kk⟩ : ∃ z : Int32, z = ((XT.ushr se (2 : Int32)) &&& (3 : Int32)) := ⟨_, rfl⟩
    rw [← h_kk]
    refine own_up (S' := T56.setTop (mkF m 181 #[.val (.int a1), .val (.int b1), .val (.int c1), .val (.int x1), .val (.int se), .val (.int (2 : Int32)), .val (.int f0), .val (.int f1), .val (.int (0 : Int32)), .val (.ref ad41), .val (.ref ad50), .val (.int kk), .unset, .unset, .unset] [])) (fun t stp => XS.istore X56.here hx rfl (hb hby at_179) rfl (l' := #[.val (.int a1), .val (.int b1), .val (.int c1), .val (.int x1), .val (.int se), .val (.int (2 : Int32)), .val (.int f0), .val (.int f1), .val (.int (0 : Int32)), .val (.ref ad41), .val (.ref ad50), .val (.int kk), .unset, .unset, .unset]) rfl stp) ?_
    have J219_59 : ∀ (qv : Int32) (Lj59 : List Loc) (Nj59 : Fr n0 Lj59) (Tj59 : State) (Xj59 : Stand p l e room_1 s m #[(.int a1), (.int b1), (.int c1), (.int x1), (.int se)] below meth c Tj59 Lj59 2 4) (ej59 : Tj59.heap = h56), own_Ends p e below s (own_Q0 Z a1 b1 c1 x1 se h0 n0) room_1.cells room_1.slots (Tj59.setTop (mkF m 219 #[.val (.int a1), .val (.int b1), .val (.int c1), .val (.int x1), .val (.int se), .val (.int (2 : Int32)), .val (.int f0), .val (.int f1), .val (.int (0 : Int32)), .val (.ref ad41), .val (.ref ad50), .val (.int kk), .val (.int qv), .unset, .unset] [])) := by
      intro qv Lj59 Nj59 Tj59 Xj59 ej59
      refine own_up (S' := Tj59.setTop (mkF m 221 #[.val (.int a1), .val (.int b1), .val (.int c1), .val (.int x1), .val (.int se), .val (.int (2 : Int32)), .val (.int f0), .val (.int f1), .val (.int (0 : Int32)), .val (.ref ad41), .val (.ref ad50), .val (.int kk), .val (.int qv), .unset, .unset] [(.int qv)])) (fun t stp => XS.iload Xj59.here hx rfl (hb hby at_219) rfl stp) ?_
      refine own_up (S' := Tj59.setTop (mkF m 223 #[.val (.int a1), .val (.int b1), .val (.int c1), .val (.int x1), .val (.int se), .val (.int (2 : Int32)), .val (.int f0), .val (.int f1), .val (.int (0 : Int32)), .val (.ref ad41), .val (.ref ad50), .val (.int kk), .val (.int qv), .unset, .unset] [(.int f0), (.int qv)])) (fun t stp => XS.iload Xj59.here hx rfl (hb hby at_221) rfl stp) ?_
      by_cases hc223_60 : qv = f0
      · have ihc223_60 : qv.toInt = f0.toInt := own_ieq hc223_60
        refine own_up (S' := Tj59.setTop (mkF m 252 #[.val (.int a1), .val (.int b1), .val (.int c1), .val (.int x1), .val (.int se), .val (.int (2 : Int32)), .val (.int f0), .val (.int f1), .val (.int (0 : Int32)), .val (.ref ad41), .val (.ref ad50), .val (.int kk), .val (.int qv), .unset, .unset] [])) (fun t stp => XS.icmpYes Xj59.here hx rfl (pc0 := 223) (pc' := 252) rfl (hb hby at_223) rfl (XT.ii_eq_t hc223_60) (by decide) (by decide) stp) ?_
        refine own_up (S' := Tj59.setTop (mkF m 253 #[.val (.int a1), .val (.int b1), .val (.int c1), .val (.int x1), .val (.int se), .val (.int (2 : Int32)), .val (.int f0), .val (.int f1), .val (.int (0 : Int32)), .val (.ref ad41), .val (.ref ad50), .val (.int kk), .val (.int qv), .unset, .unset] [(.int (1 : Int32))])) (fun t stp => XT.iconstV Xj59.here hx rfl (1 : Int32) (hb hby at_252) rfl stp) ?_
        refine own_up (S' := Tj59.setTop (mkF m 257 #[.val (.int a1), .val (.int b1), .val (.int c1), .val (.int x1), .val (.int se), .val (.int (2 : Int32)), .val (.int f0), .val (.int f1), .val (.int (0 : Int32)), .val (.ref ad41), .val (.ref ad50), .val (.int kk), .val (.int qv), .unset, .unset] [(.int (1 : Int32))])) (fun t stp => XS.goto Xj59.here hx rfl (pc0 := 253) (pc' := 257) rfl (hb hby at_253) (by decide) (by decide) stp) ?_
        refine own_up (S' := Tj59.setTop (mkF m 259 #[.val (.int a1), .val (.int b1), .val (.int c1), .val (.int x1), .val (.int se), .val (.int (2 : Int32)), .val (.int f0), .val (.int f1), .val (.int (0 : Int32)), .val (.ref ad41), .val (.ref ad50), .val (.int kk), .val (.int qv), .val (.int (1 : Int32)), .unset] [])) (fun t stp => XS.istore Xj59.here hx rfl (hb hby at_257) rfl (l' := #[.val (.int a1), .val (.int b1), .val (.int c1), .val (.int x1), .val (.int se), .val (.int (2 : Int32)), .val (.int f0), .val (.int f1), .val (.int (0 : Int32)), .val (.ref ad41), .val (.ref ad50), .val (.int kk), .val (.int qv), .val (.int (1 : Int32)), .unset]) rfl stp) ?_
        refine own_new Xj59 hx hZ hown (hw _ (List.mem_of_getElem? (i := 1) rfl)) (hw _ (List.mem_of_getElem? (i := 2) rfl)) (hw _ (List.mem_of_getElem? (i := 3) rfl)) ej59 rfl (hb hby at_259) (by decide) (by decide) ?_
        intro T61 h61 ob hb61 X61 e61 E61 A61 D61
        have ne61_ad41_ob : ad41 ≠ ob := Nat.ne_of_lt (Nat.lt_of_lt_of_eq (own_Al_lt Al47_58) hb61.symm)
        have ne61_ad50_ob : ad50 ≠ ob := Nat.ne_of_lt (Nat.lt_of_lt_of_eq (own_Al_lt Al56) hb61.symm)
        have g_ob : n0 ≤ ob := Nat.le_trans Zn57 (Nat.le_of_eq hb61.symm)
        have Zn62 := Nat.le_trans Zn57 E61.1
        have Al47_63 := own_Al_ext E61 Al47_58
        have Al56_63 := own_Al_ext E61 Al56
        have Ffields_ob : Fld Z h61 ob "com/example/kinglet/kinglet/index/Occurrences" "fields" "[I" .null := D61 (Or.inr (hw _ (List.mem_of_getElem? (i := 11) rfl))) (ty := (.array .int)) (by decide)
        have Fpositions_ob : Fld Z h61 ob "com/example/kinglet/kinglet/index/Occurrences" "positions" "[I" .null := D61 (Or.inr (hw _ (List.mem_of_getElem? (i := 13) rfl))) (ty := (.array .int)) (by decide)
        show own_Ends p e below s (own_Q0 Z a1 b1 c1 x1 se h0 n0) room_1.cells room_1.slots (T61.setTop (mkF m 262 #[.val (.int a1), .val (.int b1), .val (.int c1), .val (.int x1), .val (.int se), .val (.int (2 : Int32)), .val (.int f0), .val (.int f1), .val (.int (0 : Int32)), .val (.ref ad41), .val (.ref ad50), .val (.int kk), .val (.int qv), .val (.int (1 : Int32)), .unset] [(.ref ob)]))
        refine own_up (S' := T61.setTop (mkF m 263 #[.val (.int a1), .val (.int b1), .val (.int c1), .val (.int x1), .val (.int se), .val (.int (2 : Int32)), .val (.int f0), .val (.int f1), .val (.int (0 : Int32)), .val (.ref ad41), .val (.ref ad50), .val (.int kk), .val (.int qv), .val (.int (1 : Int32)), .unset] [(.ref ob), (.ref ob)])) (fun t stp => XS.dup X61.here hx rfl (hb hby at_262) rfl rfl stp) ?_
        refine own_up (S' := T61.setTop (mkF m 265 #[.val (.int a1), .val (.int b1), .val (.int c1), .val (.int x1), .val (.int se), .val (.int (2 : Int32)), .val (.int f0), .val (.int f1), .val (.int (0 : Int32)), .val (.ref ad41), .val (.ref ad50), .val (.int kk), .val (.int qv), .val (.int (1 : Int32)), .unset] [(.ref ad41), (.ref ob), (.ref ob)])) (fun t stp => XS.aload X61.here hx rfl (hb hby at_263) rfl rfl stp) ?_
        refine own_up (S' := T61.setTop (mkF m 267 #[.val (.int a1), .val (.int b1), .val (.int c1), .val (.int x1), .val (.int se), .val (.int (2 : Int32)), .val (.int f0), .val (.int f1), .val (.int (0 : Int32)), .val (.ref ad41), .val (.ref ad50), .val (.int kk), .val (.int qv), .val (.int (1 : Int32)), .unset] [(.ref ad50), (.ref ad41), (.ref ob), (.ref ob)])) (fun t stp => XS.aload X61.here hx rfl (hb hby at_265) rfl rfl stp) ?_
        refine own_callI X61 hx hZ rfl hown (hw _ (List.mem_of_getElem? (i := 4) rfl)) (hw _ (List.mem_of_getElem? (i := 5) rfl)) (hw _ (List.mem_of_getElem? (i := 3) rfl)) (hw _ (List.mem_of_getElem? (i := 6) rfl)) (by decide) e61 (rm1 l Z a0 hw [] ob ad41 ad50 h61 n0 Zn62 Ffields_ob Fpositions_ob A61 g_ob) 1 ob [(.ref ad41), (.ref ad50)] [(.ref ob)] (hb hby at_267) (lenOf own_pd0 rfl) (by decide) (by decide) (by decide) (by decide) rfl (by rw [hml]; rfl) rfl (by show 2 * 0 + _ ≤ _; exact Nat.le_of_eq rfl) rfl ?_
        intro T64 L64 r64 X64 q64
        obtain ⟨rfl, M64, K64, G64a_64, G64b_64⟩ := q64
        have N64 := Fr.app Nj59 M64
        have Zn65 := Nat.le_trans Zn62 K64.1
        have Al47_66 := own_Al_keep K64 Al47_63 (ninS ne61_ad41_ob nin0)
        have Al56_66 := own_Al_keep K64 Al56_63 (ninS ne61_ad50_ob nin0)
        have A61_66 := A61.keep K64
        show own_Ends p e below s (own_Q0 Z a1 b1 c1 x1 se h0 n0) room_1.cells room_1.slots (T64.setTop (mkF m 270 #[.val (.int a1), .val (.int b1), .val (.int c1), .val (.int x1), .val (.int se), .val (.int (2 : Int32)), .val (.int f0), .val (.int f1), .val (.int (0 : Int32)), .val (.ref ad41), .val (.ref ad50), .val (.int kk), .val (.int qv), .val (.int (1 : Int32)), .unset] [(.ref ob)]))
        refine own_up (S' := T64.setTop (mkF m 272 #[.val (.int a1), .val (.int b1), .val (.int c1), .val (.int x1), .val (.int se), .val (.int (2 : Int32)), .val (.int f0), .val (.int f1), .val (.int (0 : Int32)), .val (.ref ad41), .val (.ref ad50), .val (.int kk), .val (.int qv), .val (.int (1 : Int32)), .val (.ref ob)] [])) (fun t stp => XS.astore X64.here hx rfl (hb hby at_270) rfl rfl (l' := #[.val (.int a1), .val (.int b1), .val (.int c1), .val (.int x1), .val (.int se), .val (.int (2 : Int32)), .val (.int f0), .val (.int f1), .val (.int (0 : Int32)), .val (.ref ad41), .val (.ref ad50), .val (.int kk), .val (.int qv), .val (.int (1 : Int32)), .val (.ref ob)]) rfl stp) ?_
        refine own_up (S' := T64.setTop (mkF m 274 #[.val (.int a1), .val (.int b1), .val (.int c1), .val (.int x1), .val (.int se), .val (.int (2 : Int32)), .val (.int f0), .val (.int f1), .val (.int (0 : Int32)), .val (.ref ad41), .val (.ref ad50), .val (.int kk), .val (.int qv), .val (.int (1 : Int32)), .val (.ref ob)] [(.ref ob)])) (fun t stp => XS.aload X64.here hx rfl (hb hby at_272) rfl rfl stp) ?_
        refine own_up (S' := T64.setTop (mkF m 276 #[.val (.int a1), .val (.int b1), .val (.int c1), .val (.int x1), .val (.int se), .val (.int (2 : Int32)), .val (.int f0), .val (.int f1), .val (.int (0 : Int32)), .val (.ref ad41), .val (.ref ad50), .val (.int kk), .val (.int qv), .val (.int (1 : Int32)), .val (.ref ob)] [(.int qv), (.ref ob)])) (fun t stp => XS.iload X64.here hx rfl (hb hby at_274) rfl stp) ?_
        refine own_callV X64 hx hZ hown (hw _ (List.mem_of_getElem? (i := 14) rfl)) (hw _ (List.mem_of_getElem? (i := 15) rfl)) (hw _ (List.mem_of_getElem? (i := 17) rfl)) (hw _ (List.mem_of_getElem? (i := 16) rfl)) (hw _ (List.mem_of_getElem? (i := 3) rfl)) (hw _ (List.mem_of_getElem? (i := 18) rfl)) (by decide) rfl (rm12 l Z a0 hw [] ob qv ad41 f0 f1 T64.heap n0 Zn65 G64a_64 Al47_66) 0 A61_66 [(.int qv)] [] (hb hby at_276) (lenOf own_pd1 rfl) (by decide) (by decide) (by decide) (by decide) rfl (by rw [hml]; rfl) rfl (by show 2 * 0 + _ ≤ _; exact Nat.le_of_eq rfl) rfl ?_
        intro T67 L67 r67 X67 q67
        obtain ⟨rfl, M67, e67⟩ := q67
        have N67 := Fr.app N64 M67
        show own_Ends p e below s (own_Q0 Z a1 b1 c1 x1 se h0 n0) room_1.cells room_1.slots (T67.setTop (mkF m 279 #[.val (.int a1), .val (.int b1), .val (.int c1), .val (.int x1), .val (.int se), .val (.int (2 : Int32)), .val (.int f0), .val (.int f1), .val (.int (0 : Int32)), .val (.ref ad41), .val (.ref ad50), .val (.int kk), .val (.int qv), .val (.int (1 : Int32)), .val (.ref ob)] [(.int (if f0 = qv then (1 : Int32) else (if f1 = qv then (1 : Int32) else (0 : Int32))))]))
        refine own_up (S' := T67.setTop (mkF m 281 #[.val (.int a1), .val (.int b1), .val (.int c1), .val (.int x1), .val (.int se), .val (.int (2 : Int32)), .val (.int f0), .val (.int f1), .val (.int (0 : Int32)), .val (.ref ad41), .val (.ref ad50), .val (.int kk), .val (.int qv), .val (.int (1 : Int32)), .val (.ref ob)] [(.int (1 : Int32)), (.int (if f0 = qv then (1 : Int32) else (if f1 = qv then (1 : Int32) else (0 : Int32))))])) (fun t stp => XS.iload X67.here hx rfl (hb hby at_279) rfl stp) ?_
        have hc281_68 : (if f0 = qv then (1 : Int32) else (if f1 = qv then (1 : Int32) else (0 : Int32))) = (1 : Int32) := by simp [hc223_60]
        have ihc281_68 : (if f0 = qv then (1 : Int32) else (if f1 = qv then (1 : Int32) else (0 : Int32))).toInt = 1 := own_ieq hc281_68
        refine own_up (S' := T67.setTop (mkF m 284 #[.val (.int a1), .val (.int b1), .val (.int c1), .val (.int x1), .val (.int se), .val (.int (2 : Int32)), .val (.int f0), .val (.int f1), .val (.int (0 : Int32)), .val (.ref ad41), .val (.ref ad50), .val (.int kk), .val (.int qv), .val (.int (1 : Int32)), .val (.ref ob)] [])) (fun t stp => XS.icmpNo X67.here hx rfl (hb hby at_281) rfl (XT.ii_ne_f hc281_68) stp) ?_
        refine own_up (S' := T67.setTop (mkF m 285 #[.val (.int a1), .val (.int b1), .val (.int c1), .val (.int x1), .val (.int se), .val (.int (2 : Int32)), .val (.int f0), .val (.int f1), .val (.int (0 : Int32)), .val (.ref ad41), .val (.ref ad50), .val (.int kk), .val (.int qv), .val (.int (1 : Int32)), .val (.ref ob)] [(.int (1 : Int32))])) (fun t stp => XT.iconstV X67.here hx rfl (1 : Int32) (hb hby at_284) rfl stp) ?_
        refine own_up (S' := T67.setTop (mkF m 289 #[.val (.int a1), .val (.int b1), .val (.int c1), .val (.int x1), .val (.int se), .val (.int (2 : Int32)), .val (.int f0), .val (.int f1), .val (.int (0 : Int32)), .val (.ref ad41), .val (.ref ad50), .val (.int kk), .val (.int qv), .val (.int (1 : Int32)), .val (.ref ob)] [(.int (1 : Int32))])) (fun t stp => XS.goto X67.here hx rfl (pc0 := 285) (pc' := 289) rfl (hb hby at_285) (by decide) (by decide) stp) ?_
        refine own_retN X67 hx hlk (t := .boolean) hret (by simp) (z' := (1 : Int32)) rfl (hb hby at_289) (by decide) (by decide) ?_
        show own_Q0 Z a1 b1 c1 x1 se h0 n0 _ T67.heap _
        rw [e67]
        exact ⟨rfl, N67⟩
      · have ihc223_60 : qv.toInt ≠ f0.toInt := own_ine hc223_60
        refine own_up (S' := Tj59.setTop (mkF m 226 #[.val (.int a1), .val (.int b1), .val (.int c1), .val (.int x1), .val (.int se), .val (.int (2 : Int32)), .val (.int f0), .val (.int f1), .val (.int (0 : Int32)), .val (.ref ad41), .val (.ref ad50), .val (.int kk), .val (.int qv), .unset, .unset] [])) (fun t stp => XS.icmpNo Xj59.here hx rfl (hb hby at_223) rfl (XT.ii_eq_f hc223_60) stp) ?_
        refine own_up (S' := Tj59.setTop (mkF m 228 #[.val (.int a1), .val (.int b1), .val (.int c1), .val (.int x1), .val (.int se), .val (.int (2 : Int32)), .val (.int f0), .val (.int f1), .val (.int (0 : Int32)), .val (.ref ad41), .val (.ref ad50), .val (.int kk), .val (.int qv), .unset, .unset] [(.int (2 : Int32))])) (fun t stp => XS.iload Xj59.here hx rfl (hb hby at_226) rfl stp) ?_
        refine own_up (S' := Tj59.setTop (mkF m 229 #[.val (.int a1), .val (.int b1), .val (.int c1), .val (.int x1), .val (.int se), .val (.int (2 : Int32)), .val (.int f0), .val (.int f1), .val (.int (0 : Int32)), .val (.ref ad41), .val (.ref ad50), .val (.int kk), .val (.int qv), .unset, .unset] [(.int (2 : Int32)), (.int (2 : Int32))])) (fun t stp => XT.iconstV Xj59.here hx rfl (2 : Int32) (hb hby at_228) rfl stp) ?_
        have hc229_69 : ¬ ((2 : Int32) < (2 : Int32)) := by decide
        refine own_up (S' := Tj59.setTop (mkF m 232 #[.val (.int a1), .val (.int b1), .val (.int c1), .val (.int x1), .val (.int se), .val (.int (2 : Int32)), .val (.int f0), .val (.int f1), .val (.int (0 : Int32)), .val (.ref ad41), .val (.ref ad50), .val (.int kk), .val (.int qv), .unset, .unset] [])) (fun t stp => XS.icmpNo Xj59.here hx rfl (hb hby at_229) rfl (XT.ii_lt_f hc229_69) stp) ?_
        refine own_up (S' := Tj59.setTop (mkF m 234 #[.val (.int a1), .val (.int b1), .val (.int c1), .val (.int x1), .val (.int se), .val (.int (2 : Int32)), .val (.int f0), .val (.int f1), .val (.int (0 : Int32)), .val (.ref ad41), .val (.ref ad50), .val (.int kk), .val (.int qv), .unset, .unset] [(.int qv)])) (fun t stp => XS.iload Xj59.here hx rfl (hb hby at_232) rfl stp) ?_
        refine own_up (S' := Tj59.setTop (mkF m 236 #[.val (.int a1), .val (.int b1), .val (.int c1), .val (.int x1), .val (.int se), .val (.int (2 : Int32)), .val (.int f0), .val (.int f1), .val (.int (0 : Int32)), .val (.ref ad41), .val (.ref ad50), .val (.int kk), .val (.int qv), .unset, .unset] [(.int f1), (.int qv)])) (fun t stp => XS.iload Xj59.here hx rfl (hb hby at_234) rfl stp) ?_
        by_cases hc236_70 : qv = f1
        · have ihc236_70 : qv.toInt = f1.toInt := own_ieq hc236_70
          refine own_up (S' := Tj59.setTop (mkF m 252 #[.val (.int a1), .val (.int b1), .val (.int c1), .val (.int x1), .val (.int se), .val (.int (2 : Int32)), .val (.int f0), .val (.int f1), .val (.int (0 : Int32)), .val (.ref ad41), .val (.ref ad50), .val (.int kk), .val (.int qv), .unset, .unset] [])) (fun t stp => XS.icmpYes Xj59.here hx rfl (pc0 := 236) (pc' := 252) rfl (hb hby at_236) rfl (XT.ii_eq_t hc236_70) (by decide) (by decide) stp) ?_
          refine own_up (S' := Tj59.setTop (mkF m 253 #[.val (.int a1), .val (.int b1), .val (.int c1), .val (.int x1), .val (.int se), .val (.int (2 : Int32)), .val (.int f0), .val (.int f1), .val (.int (0 : Int32)), .val (.ref ad41), .val (.ref ad50), .val (.int kk), .val (.int qv), .unset, .unset] [(.int (1 : Int32))])) (fun t stp => XT.iconstV Xj59.here hx rfl (1 : Int32) (hb hby at_252) rfl stp) ?_
          refine own_up (S' := Tj59.setTop (mkF m 257 #[.val (.int a1), .val (.int b1), .val (.int c1), .val (.int x1), .val (.int se), .val (.int (2 : Int32)), .val (.int f0), .val (.int f1), .val (.int (0 : Int32)), .val (.ref ad41), .val (.ref ad50), .val (.int kk), .val (.int qv), .unset, .unset] [(.int (1 : Int32))])) (fun t stp => XS.goto Xj59.here hx rfl (pc0 := 253) (pc' := 257) rfl (hb hby at_253) (by decide) (by decide) stp) ?_
          refine own_up (S' := Tj59.setTop (mkF m 259 #[.val (.int a1), .val (.int b1), .val (.int c1), .val (.int x1), .val (.int se), .val (.int (2 : Int32)), .val (.int f0), .val (.int f1), .val (.int (0 : Int32)), .val (.ref ad41), .val (.ref ad50), .val (.int kk), .val (.int qv), .val (.int (1 : Int32)), .unset] [])) (fun t stp => XS.istore Xj59.here hx rfl (hb hby at_257) rfl (l' := #[.val (.int a1), .val (.int b1), .val (.int c1), .val (.int x1), .val (.int se), .val (.int (2 : Int32)), .val (.int f0), .val (.int f1), .val (.int (0 : Int32)), .val (.ref ad41), .val (.ref ad50), .val (.int kk), .val (.int qv), .val (.int (1 : Int32)), .unset]) rfl stp) ?_
          refine own_new Xj59 hx hZ hown (hw _ (List.mem_of_getElem? (i := 1) rfl)) (hw _ (List.mem_of_getElem? (i := 2) rfl)) (hw _ (List.mem_of_getElem? (i := 3) rfl)) ej59 rfl (hb hby at_259) (by decide) (by decide) ?_
          intro T71 h71 ob hb71 X71 e71 E71 A71 D71
          have ne71_ad41_ob : ad41 ≠ ob := Nat.ne_of_lt (Nat.lt_of_lt_of_eq (own_Al_lt Al47_58) hb71.symm)
          have ne71_ad50_ob : ad50 ≠ ob := Nat.ne_of_lt (Nat.lt_of_lt_of_eq (own_Al_lt Al56) hb71.symm)
          have g_ob : n0 ≤ ob := Nat.le_trans Zn57 (Nat.le_of_eq hb71.symm)
          have Zn72 := Nat.le_trans Zn57 E71.1
          have Al47_73 := own_Al_ext E71 Al47_58
          have Al56_73 := own_Al_ext E71 Al56
          have Ffields_ob : Fld Z h71 ob "com/example/kinglet/kinglet/index/Occurrences" "fields" "[I" .null := D71 (Or.inr (hw _ (List.mem_of_getElem? (i := 11) rfl))) (ty := (.array .int)) (by decide)
          have Fpositions_ob : Fld Z h71 ob "com/example/kinglet/kinglet/index/Occurrences" "positions" "[I" .null := D71 (Or.inr (hw _ (List.mem_of_getElem? (i := 13) rfl))) (ty := (.array .int)) (by decide)
          show own_Ends p e below s (own_Q0 Z a1 b1 c1 x1 se h0 n0) room_1.cells room_1.slots (T71.setTop (mkF m 262 #[.val (.int a1), .val (.int b1), .val (.int c1), .val (.int x1), .val (.int se), .val (.int (2 : Int32)), .val (.int f0), .val (.int f1), .val (.int (0 : Int32)), .val (.ref ad41), .val (.ref ad50), .val (.int kk), .val (.int qv), .val (.int (1 : Int32)), .unset] [(.ref ob)]))
          refine own_up (S' := T71.setTop (mkF m 263 #[.val (.int a1), .val (.int b1), .val (.int c1), .val (.int x1), .val (.int se), .val (.int (2 : Int32)), .val (.int f0), .val (.int f1), .val (.int (0 : Int32)), .val (.ref ad41), .val (.ref ad50), .val (.int kk), .val (.int qv), .val (.int (1 : Int32)), .unset] [(.ref ob), (.ref ob)])) (fun t stp => XS.dup X71.here hx rfl (hb hby at_262) rfl rfl stp) ?_
          refine own_up (S' := T71.setTop (mkF m 265 #[.val (.int a1), .val (.int b1), .val (.int c1), .val (.int x1), .val (.int se), .val (.int (2 : Int32)), .val (.int f0), .val (.int f1), .val (.int (0 : Int32)), .val (.ref ad41), .val (.ref ad50), .val (.int kk), .val (.int qv), .val (.int (1 : Int32)), .unset] [(.ref ad41), (.ref ob), (.ref ob)])) (fun t stp => XS.aload X71.here hx rfl (hb hby at_263) rfl rfl stp) ?_
          refine own_up (S' := T71.setTop (mkF m 267 #[.val (.int a1), .val (.int b1), .val (.int c1), .val (.int x1), .val (.int se), .val (.int (2 : Int32)), .val (.int f0), .val (.int f1), .val (.int (0 : Int32)), .val (.ref ad41), .val (.ref ad50), .val (.int kk), .val (.int qv), .val (.int (1 : Int32)), .unset] [(.ref ad50), (.ref ad41), (.ref ob), (.ref ob)])) (fun t stp => XS.aload X71.here hx rfl (hb hby at_265) rfl rfl stp) ?_
          refine own_callI X71 hx hZ rfl hown (hw _ (List.mem_of_getElem? (i := 4) rfl)) (hw _ (List.mem_of_getElem? (i := 5) rfl)) (hw _ (List.mem_of_getElem? (i := 3) rfl)) (hw _ (List.mem_of_getElem? (i := 6) rfl)) (by decide) e71 (rm1 l Z a0 hw [] ob ad41 ad50 h71 n0 Zn72 Ffields_ob Fpositions_ob A71 g_ob) 1 ob [(.ref ad41), (.ref ad50)] [(.ref ob)] (hb hby at_267) (lenOf own_pd0 rfl) (by decide) (by decide) (by decide) (by decide) rfl (by rw [hml]; rfl) rfl (by show 2 * 0 + _ ≤ _; exact Nat.le_of_eq rfl) rfl ?_
          intro T74 L74 r74 X74 q74
          obtain ⟨rfl, M74, K74, G74a_74, G74b_74⟩ := q74
          have N74 := Fr.app Nj59 M74
          have Zn75 := Nat.le_trans Zn72 K74.1
          have Al47_76 := own_Al_keep K74 Al47_73 (ninS ne71_ad41_ob nin0)
          have Al56_76 := own_Al_keep K74 Al56_73 (ninS ne71_ad50_ob nin0)
          have A71_76 := A71.keep K74
          show own_Ends p e below s (own_Q0 Z a1 b1 c1 x1 se h0 n0) room_1.cells room_1.slots (T74.setTop (mkF m 270 #[.val (.int a1), .val (.int b1), .val (.int c1), .val (.int x1), .val (.int se), .val (.int (2 : Int32)), .val (.int f0), .val (.int f1), .val (.int (0 : Int32)), .val (.ref ad41), .val (.ref ad50), .val (.int kk), .val (.int qv), .val (.int (1 : Int32)), .unset] [(.ref ob)]))
          refine own_up (S' := T74.setTop (mkF m 272 #[.val (.int a1), .val (.int b1), .val (.int c1), .val (.int x1), .val (.int se), .val (.int (2 : Int32)), .val (.int f0), .val (.int f1), .val (.int (0 : Int32)), .val (.ref ad41), .val (.ref ad50), .val (.int kk), .val (.int qv), .val (.int (1 : Int32)), .val (.ref ob)] [])) (fun t stp => XS.astore X74.here hx rfl (hb hby at_270) rfl rfl (l' := #[.val (.int a1), .val (.int b1), .val (.int c1), .val (.int x1), .val (.int se), .val (.int (2 : Int32)), .val (.int f0), .val (.int f1), .val (.int (0 : Int32)), .val (.ref ad41), .val (.ref ad50), .val (.int kk), .val (.int qv), .val (.int (1 : Int32)), .val (.ref ob)]) rfl stp) ?_
          refine own_up (S' := T74.setTop (mkF m 274 #[.val (.int a1), .val (.int b1), .val (.int c1), .val (.int x1), .val (.int se), .val (.int (2 : Int32)), .val (.int f0), .val (.int f1), .val (.int (0 : Int32)), .val (.ref ad41), .val (.ref ad50), .val (.int kk), .val (.int qv), .val (.int (1 : Int32)), .val (.ref ob)] [(.ref ob)])) (fun t stp => XS.aload X74.here hx rfl (hb hby at_272) rfl rfl stp) ?_
          refine own_up (S' := T74.setTop (mkF m 276 #[.val (.int a1), .val (.int b1), .val (.int c1), .val (.int x1), .val (.int se), .val (.int (2 : Int32)), .val (.int f0), .val (.int f1), .val (.int (0 : Int32)), .val (.ref ad41), .val (.ref ad50), .val (.int kk), .val (.int qv), .val (.int (1 : Int32)), .val (.ref ob)] [(.int qv), (.ref ob)])) (fun t stp => XS.iload X74.here hx rfl (hb hby at_274) rfl stp) ?_
          refine own_callV X74 hx hZ hown (hw _ (List.mem_of_getElem? (i := 14) rfl)) (hw _ (List.mem_of_getElem? (i := 15) rfl)) (hw _ (List.mem_of_getElem? (i := 17) rfl)) (hw _ (List.mem_of_getElem? (i := 16) rfl)) (hw _ (List.mem_of_getElem? (i := 3) rfl)) (hw _ (List.mem_of_getElem? (i := 18) rfl)) (by decide) rfl (rm12 l Z a0 hw [] ob qv ad41 f0 f1 T74.heap n0 Zn75 G74a_74 Al47_76) 0 A71_76 [(.int qv)] [] (hb hby at_276) (lenOf own_pd1 rfl) (by decide) (by decide) (by decide) (by decide) rfl (by rw [hml]; rfl) rfl (by show 2 * 0 + _ ≤ _; exact Nat.le_of_eq rfl) rfl ?_
          intro T77 L77 r77 X77 q77
          obtain ⟨rfl, M77, e77⟩ := q77
          have N77 := Fr.app N74 M77
          show own_Ends p e below s (own_Q0 Z a1 b1 c1 x1 se h0 n0) room_1.cells room_1.slots (T77.setTop (mkF m 279 #[.val (.int a1), .val (.int b1), .val (.int c1), .val (.int x1), .val (.int se), .val (.int (2 : Int32)), .val (.int f0), .val (.int f1), .val (.int (0 : Int32)), .val (.ref ad41), .val (.ref ad50), .val (.int kk), .val (.int qv), .val (.int (1 : Int32)), .val (.ref ob)] [(.int (if f0 = qv then (1 : Int32) else (if f1 = qv then (1 : Int32) else (0 : Int32))))]))
          refine own_up (S' := T77.setTop (mkF m 281 #[.val (.int a1), .val (.int b1), .val (.int c1), .val (.int x1), .val (.int se), .val (.int (2 : Int32)), .val (.int f0), .val (.int f1), .val (.int (0 : Int32)), .val (.ref ad41), .val (.ref ad50), .val (.int kk), .val (.int qv), .val (.int (1 : Int32)), .val (.ref ob)] [(.int (1 : Int32)), (.int (if f0 = qv then (1 : Int32) else (if f1 = qv then (1 : Int32) else (0 : Int32))))])) (fun t stp => XS.iload X77.here hx rfl (hb hby at_279) rfl stp) ?_
          have hc281_78 : (if f0 = qv then (1 : Int32) else (if f1 = qv then (1 : Int32) else (0 : Int32))) = (1 : Int32) := by simp [Ne.symm hc223_60, hc236_70]
          have ihc281_78 : (if f0 = qv then (1 : Int32) else (if f1 = qv then (1 : Int32) else (0 : Int32))).toInt = 1 := own_ieq hc281_78
          refine own_up (S' := T77.setTop (mkF m 284 #[.val (.int a1), .val (.int b1), .val (.int c1), .val (.int x1), .val (.int se), .val (.int (2 : Int32)), .val (.int f0), .val (.int f1), .val (.int (0 : Int32)), .val (.ref ad41), .val (.ref ad50), .val (.int kk), .val (.int qv), .val (.int (1 : Int32)), .val (.ref ob)] [])) (fun t stp => XS.icmpNo X77.here hx rfl (hb hby at_281) rfl (XT.ii_ne_f hc281_78) stp) ?_
          refine own_up (S' := T77.setTop (mkF m 285 #[.val (.int a1), .val (.int b1), .val (.int c1), .val (.int x1), .val (.int se), .val (.int (2 : Int32)), .val (.int f0), .val (.int f1), .val (.int (0 : Int32)), .val (.ref ad41), .val (.ref ad50), .val (.int kk), .val (.int qv), .val (.int (1 : Int32)), .val (.ref ob)] [(.int (1 : Int32))])) (fun t stp => XT.iconstV X77.here hx rfl (1 : Int32) (hb hby at_284) rfl stp) ?_
          refine own_up (S' := T77.setTop (mkF m 289 #[.val (.int a1), .val (.int b1), .val (.int c1), .val (.int x1), .val (.int se), .val (.int (2 : Int32)), .val (.int f0), .val (.int f1), .val (.int (0 : Int32)), .val (.ref ad41), .val (.ref ad50), .val (.int kk), .val (.int qv), .val (.int (1 : Int32)), .val (.ref ob)] [(.int (1 : Int32))])) (fun t stp => XS.goto X77.here hx rfl (pc0 := 285) (pc' := 289) rfl (hb hby at_285) (by decide) (by decide) stp) ?_
          refine own_retN X77 hx hlk (t := .boolean) hret (by simp) (z' := (1 : Int32)) rfl (hb hby at_289) (by decide) (by decide) ?_
          show own_Q0 Z a1 b1 c1 x1 se h0 n0 _ T77.heap _
          rw [e77]
          exact ⟨rfl, N77⟩
        · have ihc236_70 : qv.toInt ≠ f1.toInt := own_ine hc236_70
          refine own_up (S' := Tj59.setTop (mkF m 239 #[.val (.int a1), .val (.int b1), .val (.int c1), .val (.int x1), .val (.int se), .val (.int (2 : Int32)), .val (.int f0), .val (.int f1), .val (.int (0 : Int32)), .val (.ref ad41), .val (.ref ad50), .val (.int kk), .val (.int qv), .unset, .unset] [])) (fun t stp => XS.icmpNo Xj59.here hx rfl (hb hby at_236) rfl (XT.ii_eq_f hc236_70) stp) ?_
          refine own_up (S' := Tj59.setTop (mkF m 241 #[.val (.int a1), .val (.int b1), .val (.int c1), .val (.int x1), .val (.int se), .val (.int (2 : Int32)), .val (.int f0), .val (.int f1), .val (.int (0 : Int32)), .val (.ref ad41), .val (.ref ad50), .val (.int kk), .val (.int qv), .unset, .unset] [(.int (2 : Int32))])) (fun t stp => XS.iload Xj59.here hx rfl (hb hby at_239) rfl stp) ?_
          refine own_up (S' := Tj59.setTop (mkF m 242 #[.val (.int a1), .val (.int b1), .val (.int c1), .val (.int x1), .val (.int se), .val (.int (2 : Int32)), .val (.int f0), .val (.int f1), .val (.int (0 : Int32)), .val (.ref ad41), .val (.ref ad50), .val (.int kk), .val (.int qv), .unset, .unset] [(.int (3 : Int32)), (.int (2 : Int32))])) (fun t stp => XT.iconstV Xj59.here hx rfl (3 : Int32) (hb hby at_241) rfl stp) ?_
          have hc242_79 : (2 : Int32) < (3 : Int32) := by decide
          refine own_up (S' := Tj59.setTop (mkF m 256 #[.val (.int a1), .val (.int b1), .val (.int c1), .val (.int x1), .val (.int se), .val (.int (2 : Int32)), .val (.int f0), .val (.int f1), .val (.int (0 : Int32)), .val (.ref ad41), .val (.ref ad50), .val (.int kk), .val (.int qv), .unset, .unset] [])) (fun t stp => XS.icmpYes Xj59.here hx rfl (pc0 := 242) (pc' := 256) rfl (hb hby at_242) rfl (XT.ii_lt_t hc242_79) (by decide) (by decide) stp) ?_
          refine own_up (S' := Tj59.setTop (mkF m 257 #[.val (.int a1), .val (.int b1), .val (.int c1), .val (.int x1), .val (.int se), .val (.int (2 : Int32)), .val (.int f0), .val (.int f1), .val (.int (0 : Int32)), .val (.ref ad41), .val (.ref ad50), .val (.int kk), .val (.int qv), .unset, .unset] [(.int (0 : Int32))])) (fun t stp => XT.iconstV Xj59.here hx rfl (0 : Int32) (hb hby at_256) rfl stp) ?_
          refine own_up (S' := Tj59.setTop (mkF m 259 #[.val (.int a1), .val (.int b1), .val (.int c1), .val (.int x1), .val (.int se), .val (.int (2 : Int32)), .val (.int f0), .val (.int f1), .val (.int (0 : Int32)), .val (.ref ad41), .val (.ref ad50), .val (.int kk), .val (.int qv), .val (.int (0 : Int32)), .unset] [])) (fun t stp => XS.istore Xj59.here hx rfl (hb hby at_257) rfl (l' := #[.val (.int a1), .val (.int b1), .val (.int c1), .val (.int x1), .val (.int se), .val (.int (2 : Int32)), .val (.int f0), .val (.int f1), .val (.int (0 : Int32)), .val (.ref ad41), .val (.ref ad50), .val (.int kk), .val (.int qv), .val (.int (0 : Int32)), .unset]) rfl stp) ?_
          refine own_new Xj59 hx hZ hown (hw _ (List.mem_of_getElem? (i := 1) rfl)) (hw _ (List.mem_of_getElem? (i := 2) rfl)) (hw _ (List.mem_of_getElem? (i := 3) rfl)) ej59 rfl (hb hby at_259) (by decide) (by decide) ?_
          intro T80 h80 ob hb80 X80 e80 E80 A80 D80
          have ne80_ad41_ob : ad41 ≠ ob := Nat.ne_of_lt (Nat.lt_of_lt_of_eq (own_Al_lt Al47_58) hb80.symm)
          have ne80_ad50_ob : ad50 ≠ ob := Nat.ne_of_lt (Nat.lt_of_lt_of_eq (own_Al_lt Al56) hb80.symm)
          have g_ob : n0 ≤ ob := Nat.le_trans Zn57 (Nat.le_of_eq hb80.symm)
          have Zn81 := Nat.le_trans Zn57 E80.1
          have Al47_82 := own_Al_ext E80 Al47_58
          have Al56_82 := own_Al_ext E80 Al56
          have Ffields_ob : Fld Z h80 ob "com/example/kinglet/kinglet/index/Occurrences" "fields" "[I" .null := D80 (Or.inr (hw _ (List.mem_of_getElem? (i := 11) rfl))) (ty := (.array .int)) (by decide)
          have Fpositions_ob : Fld Z h80 ob "com/example/kinglet/kinglet/index/Occurrences" "positions" "[I" .null := D80 (Or.inr (hw _ (List.mem_of_getElem? (i := 13) rfl))) (ty := (.array .int)) (by decide)
          show own_Ends p e below s (own_Q0 Z a1 b1 c1 x1 se h0 n0) room_1.cells room_1.slots (T80.setTop (mkF m 262 #[.val (.int a1), .val (.int b1), .val (.int c1), .val (.int x1), .val (.int se), .val (.int (2 : Int32)), .val (.int f0), .val (.int f1), .val (.int (0 : Int32)), .val (.ref ad41), .val (.ref ad50), .val (.int kk), .val (.int qv), .val (.int (0 : Int32)), .unset] [(.ref ob)]))
          refine own_up (S' := T80.setTop (mkF m 263 #[.val (.int a1), .val (.int b1), .val (.int c1), .val (.int x1), .val (.int se), .val (.int (2 : Int32)), .val (.int f0), .val (.int f1), .val (.int (0 : Int32)), .val (.ref ad41), .val (.ref ad50), .val (.int kk), .val (.int qv), .val (.int (0 : Int32)), .unset] [(.ref ob), (.ref ob)])) (fun t stp => XS.dup X80.here hx rfl (hb hby at_262) rfl rfl stp) ?_
          refine own_up (S' := T80.setTop (mkF m 265 #[.val (.int a1), .val (.int b1), .val (.int c1), .val (.int x1), .val (.int se), .val (.int (2 : Int32)), .val (.int f0), .val (.int f1), .val (.int (0 : Int32)), .val (.ref ad41), .val (.ref ad50), .val (.int kk), .val (.int qv), .val (.int (0 : Int32)), .unset] [(.ref ad41), (.ref ob), (.ref ob)])) (fun t stp => XS.aload X80.here hx rfl (hb hby at_263) rfl rfl stp) ?_
          refine own_up (S' := T80.setTop (mkF m 267 #[.val (.int a1), .val (.int b1), .val (.int c1), .val (.int x1), .val (.int se), .val (.int (2 : Int32)), .val (.int f0), .val (.int f1), .val (.int (0 : Int32)), .val (.ref ad41), .val (.ref ad50), .val (.int kk), .val (.int qv), .val (.int (0 : Int32)), .unset] [(.ref ad50), (.ref ad41), (.ref ob), (.ref ob)])) (fun t stp => XS.aload X80.here hx rfl (hb hby at_265) rfl rfl stp) ?_
          refine own_callI X80 hx hZ rfl hown (hw _ (List.mem_of_getElem? (i := 4) rfl)) (hw _ (List.mem_of_getElem? (i := 5) rfl)) (hw _ (List.mem_of_getElem? (i := 3) rfl)) (hw _ (List.mem_of_getElem? (i := 6) rfl)) (by decide) e80 (rm1 l Z a0 hw [] ob ad41 ad50 h80 n0 Zn81 Ffields_ob Fpositions_ob A80 g_ob) 1 ob [(.ref ad41), (.ref ad50)] [(.ref ob)] (hb hby at_267) (lenOf own_pd0 rfl) (by decide) (by decide) (by decide) (by decide) rfl (by rw [hml]; rfl) rfl (by show 2 * 0 + _ ≤ _; exact Nat.le_of_eq rfl) rfl ?_
          intro T83 L83 r83 X83 q83
          obtain ⟨rfl, M83, K83, G83a_83, G83b_83⟩ := q83
          have N83 := Fr.app Nj59 M83
          have Zn84 := Nat.le_trans Zn81 K83.1
          have Al47_85 := own_Al_keep K83 Al47_82 (ninS ne80_ad41_ob nin0)
          have Al56_85 := own_Al_keep K83 Al56_82 (ninS ne80_ad50_ob nin0)
          have A80_85 := A80.keep K83
          show own_Ends p e below s (own_Q0 Z a1 b1 c1 x1 se h0 n0) room_1.cells room_1.slots (T83.setTop (mkF m 270 #[.val (.int a1), .val (.int b1), .val (.int c1), .val (.int x1), .val (.int se), .val (.int (2 : Int32)), .val (.int f0), .val (.int f1), .val (.int (0 : Int32)), .val (.ref ad41), .val (.ref ad50), .val (.int kk), .val (.int qv), .val (.int (0 : Int32)), .unset] [(.ref ob)]))
          refine own_up (S' := T83.setTop (mkF m 272 #[.val (.int a1), .val (.int b1), .val (.int c1), .val (.int x1), .val (.int se), .val (.int (2 : Int32)), .val (.int f0), .val (.int f1), .val (.int (0 : Int32)), .val (.ref ad41), .val (.ref ad50), .val (.int kk), .val (.int qv), .val (.int (0 : Int32)), .val (.ref ob)] [])) (fun t stp => XS.astore X83.here hx rfl (hb hby at_270) rfl rfl (l' := #[.val (.int a1), .val (.int b1), .val (.int c1), .val (.int x1), .val (.int se), .val (.int (2 : Int32)), .val (.int f0), .val (.int f1), .val (.int (0 : Int32)), .val (.ref ad41), .val (.ref ad50), .val (.int kk), .val (.int qv), .val (.int (0 : Int32)), .val (.ref ob)]) rfl stp) ?_
          refine own_up (S' := T83.setTop (mkF m 274 #[.val (.int a1), .val (.int b1), .val (.int c1), .val (.int x1), .val (.int se), .val (.int (2 : Int32)), .val (.int f0), .val (.int f1), .val (.int (0 : Int32)), .val (.ref ad41), .val (.ref ad50), .val (.int kk), .val (.int qv), .val (.int (0 : Int32)), .val (.ref ob)] [(.ref ob)])) (fun t stp => XS.aload X83.here hx rfl (hb hby at_272) rfl rfl stp) ?_
          refine own_up (S' := T83.setTop (mkF m 276 #[.val (.int a1), .val (.int b1), .val (.int c1), .val (.int x1), .val (.int se), .val (.int (2 : Int32)), .val (.int f0), .val (.int f1), .val (.int (0 : Int32)), .val (.ref ad41), .val (.ref ad50), .val (.int kk), .val (.int qv), .val (.int (0 : Int32)), .val (.ref ob)] [(.int qv), (.ref ob)])) (fun t stp => XS.iload X83.here hx rfl (hb hby at_274) rfl stp) ?_
          refine own_callV X83 hx hZ hown (hw _ (List.mem_of_getElem? (i := 14) rfl)) (hw _ (List.mem_of_getElem? (i := 15) rfl)) (hw _ (List.mem_of_getElem? (i := 17) rfl)) (hw _ (List.mem_of_getElem? (i := 16) rfl)) (hw _ (List.mem_of_getElem? (i := 3) rfl)) (hw _ (List.mem_of_getElem? (i := 18) rfl)) (by decide) rfl (rm12 l Z a0 hw [] ob qv ad41 f0 f1 T83.heap n0 Zn84 G83a_83 Al47_85) 0 A80_85 [(.int qv)] [] (hb hby at_276) (lenOf own_pd1 rfl) (by decide) (by decide) (by decide) (by decide) rfl (by rw [hml]; rfl) rfl (by show 2 * 0 + _ ≤ _; exact Nat.le_of_eq rfl) rfl ?_
          intro T86 L86 r86 X86 q86
          obtain ⟨rfl, M86, e86⟩ := q86
          have N86 := Fr.app N83 M86
          show own_Ends p e below s (own_Q0 Z a1 b1 c1 x1 se h0 n0) room_1.cells room_1.slots (T86.setTop (mkF m 279 #[.val (.int a1), .val (.int b1), .val (.int c1), .val (.int x1), .val (.int se), .val (.int (2 : Int32)), .val (.int f0), .val (.int f1), .val (.int (0 : Int32)), .val (.ref ad41), .val (.ref ad50), .val (.int kk), .val (.int qv), .val (.int (0 : Int32)), .val (.ref ob)] [(.int (if f0 = qv then (1 : Int32) else (if f1 = qv then (1 : Int32) else (0 : Int32))))]))
          refine own_up (S' := T86.setTop (mkF m 281 #[.val (.int a1), .val (.int b1), .val (.int c1), .val (.int x1), .val (.int se), .val (.int (2 : Int32)), .val (.int f0), .val (.int f1), .val (.int (0 : Int32)), .val (.ref ad41), .val (.ref ad50), .val (.int kk), .val (.int qv), .val (.int (0 : Int32)), .val (.ref ob)] [(.int (0 : Int32)), (.int (if f0 = qv then (1 : Int32) else (if f1 = qv then (1 : Int32) else (0 : Int32))))])) (fun t stp => XS.iload X86.here hx rfl (hb hby at_279) rfl stp) ?_
          have hc281_87 : (if f0 = qv then (1 : Int32) else (if f1 = qv then (1 : Int32) else (0 : Int32))) = (0 : Int32) := by simp [Ne.symm hc223_60, Ne.symm hc236_70]
          have ihc281_87 : (if f0 = qv then (1 : Int32) else (if f1 = qv then (1 : Int32) else (0 : Int32))).toInt = 0 := own_ieq hc281_87
          refine own_up (S' := T86.setTop (mkF m 284 #[.val (.int a1), .val (.int b1), .val (.int c1), .val (.int x1), .val (.int se), .val (.int (2 : Int32)), .val (.int f0), .val (.int f1), .val (.int (0 : Int32)), .val (.ref ad41), .val (.ref ad50), .val (.int kk), .val (.int qv), .val (.int (0 : Int32)), .val (.ref ob)] [])) (fun t stp => XS.icmpNo X86.here hx rfl (hb hby at_281) rfl (XT.ii_ne_f hc281_87) stp) ?_
          refine own_up (S' := T86.setTop (mkF m 285 #[.val (.int a1), .val (.int b1), .val (.int c1), .val (.int x1), .val (.int se), .val (.int (2 : Int32)), .val (.int f0), .val (.int f1), .val (.int (0 : Int32)), .val (.ref ad41), .val (.ref ad50), .val (.int kk), .val (.int qv), .val (.int (0 : Int32)), .val (.ref ob)] [(.int (1 : Int32))])) (fun t stp => XT.iconstV X86.here hx rfl (1 : Int32) (hb hby at_284) rfl stp) ?_
          refine own_up (S' := T86.setTop (mkF m 289 #[.val (.int a1), .val (.int b1), .val (.int c1), .val (.int x1), .val (.int se), .val (.int (2 : Int32)), .val (.int f0), .val (.int f1), .val (.int (0 : Int32)), .val (.ref ad41), .val (.ref ad50), .val (.int kk), .val (.int qv), .val (.int (0 : Int32)), .val (.ref ob)] [(.int (1 : Int32))])) (fun t stp => XS.goto X86.here hx rfl (pc0 := 285) (pc' := 289) rfl (hb hby at_285) (by decide) (by decide) stp) ?_
          refine own_retN X86 hx hlk (t := .boolean) hret (by simp) (z' := (1 : Int32)) rfl (hb hby at_289) (by decide) (by decide) ?_
          show own_Q0 Z a1 b1 c1 x1 se h0 n0 _ T86.heap _
          rw [e86]
          exact ⟨rfl, N86⟩
    refine own_up (S' := T56.setTop (mkF m 183 #[.val (.int a1), .val (.int b1), .val (.int c1), .val (.int x1), .val (.int se), .val (.int (2 : Int32)), .val (.int f0), .val (.int f1), .val (.int (0 : Int32)), .val (.ref ad41), .val (.ref ad50), .val (.int kk), .unset, .unset, .unset] [(.int kk)])) (fun t stp => XS.iload X56.here hx rfl (hb hby at_181) rfl stp) ?_
    by_cases hc183_88 : kk = 0
    · have ihc183_88 : kk.toInt = 0 := own_ieq hc183_88
      refine own_up (S' := T56.setTop (mkF m 186 #[.val (.int a1), .val (.int b1), .val (.int c1), .val (.int x1), .val (.int se), .val (.int (2 : Int32)), .val (.int f0), .val (.int f1), .val (.int (0 : Int32)), .val (.ref ad41), .val (.ref ad50), .val (.int kk), .unset, .unset, .unset] [])) (fun t stp => XS.ifNo X56.here hx rfl (hb hby at_183) rfl (XT.i0_ne_f hc183_88) stp) ?_
      refine own_up (S' := T56.setTop (mkF m 187 #[.val (.int a1), .val (.int b1), .val (.int c1), .val (.int x1), .val (.int se), .val (.int (2 : Int32)), .val (.int f0), .val (.int f1), .val (.int (0 : Int32)), .val (.ref ad41), .val (.ref ad50), .val (.int kk), .unset, .unset, .unset] [(.int x1)])) (fun t stp => XS.iloadN X56.here hx rfl (hb hby at_186) rfl stp) ?_
      refine own_up (S' := T56.setTop (mkF m 189 #[.val (.int a1), .val (.int b1), .val (.int c1), .val (.int x1), .val (.int se), .val (.int (2 : Int32)), .val (.int f0), .val (.int f1), .val (.int (0 : Int32)), .val (.ref ad41), .val (.ref ad50), .val (.int kk), .val (.int x1), .unset, .unset] [])) (fun t stp => XS.istore X56.here hx rfl (hb hby at_187) rfl (l' := #[.val (.int a1), .val (.int b1), .val (.int c1), .val (.int x1), .val (.int se), .val (.int (2 : Int32)), .val (.int f0), .val (.int f1), .val (.int (0 : Int32)), .val (.ref ad41), .val (.ref ad50), .val (.int kk), .val (.int x1), .unset, .unset]) rfl stp) ?_
      refine own_up (S' := T56.setTop (mkF m 219 #[.val (.int a1), .val (.int b1), .val (.int c1), .val (.int x1), .val (.int se), .val (.int (2 : Int32)), .val (.int f0), .val (.int f1), .val (.int (0 : Int32)), .val (.ref ad41), .val (.ref ad50), .val (.int kk), .val (.int x1), .unset, .unset] [])) (fun t stp => XS.goto X56.here hx rfl (pc0 := 189) (pc' := 219) rfl (hb hby at_189) (by decide) (by decide) stp) ?_
      exact J219_59 x1 _ N56 T56 X56 e56
    · have ihc183_88 : kk.toInt ≠ 0 := own_ine hc183_88
      refine own_up (S' := T56.setTop (mkF m 192 #[.val (.int a1), .val (.int b1), .val (.int c1), .val (.int x1), .val (.int se), .val (.int (2 : Int32)), .val (.int f0), .val (.int f1), .val (.int (0 : Int32)), .val (.ref ad41), .val (.ref ad50), .val (.int kk), .unset, .unset, .unset] [])) (fun t stp => XS.ifYes X56.here hx rfl (pc0 := 183) (pc' := 192) rfl (hb hby at_183) rfl (XT.i0_ne_t hc183_88) (by decide) (by decide) stp) ?_
      refine own_up (S' := T56.setTop (mkF m 194 #[.val (.int a1), .val (.int b1), .val (.int c1), .val (.int x1), .val (.int se), .val (.int (2 : Int32)), .val (.int f0), .val (.int f1), .val (.int (0 : Int32)), .val (.ref ad41), .val (.ref ad50), .val (.int kk), .unset, .unset, .unset] [(.int kk)])) (fun t stp => XS.iload X56.here hx rfl (hb hby at_192) rfl stp) ?_
      refine own_up (S' := T56.setTop (mkF m 195 #[.val (.int a1), .val (.int b1), .val (.int c1), .val (.int x1), .val (.int se), .val (.int (2 : Int32)), .val (.int f0), .val (.int f1), .val (.int (0 : Int32)), .val (.ref ad41), .val (.ref ad50), .val (.int kk), .unset, .unset, .unset] [(.int (1 : Int32)), (.int kk)])) (fun t stp => XT.iconstV X56.here hx rfl (1 : Int32) (hb hby at_194) rfl stp) ?_
      by_cases hc195_89 : kk = (1 : Int32)
      · have ihc195_89 : kk.toInt = 1 := own_ieq hc195_89
        refine own_up (S' := T56.setTop (mkF m 198 #[.val (.int a1), .val (.int b1), .val (.int c1), .val (.int x1), .val (.int se), .val (.int (2 : Int32)), .val (.int f0), .val (.int f1), .val (.int (0 : Int32)), .val (.ref ad41), .val (.ref ad50), .val (.int kk), .unset, .unset, .unset] [])) (fun t stp => XS.icmpNo X56.here hx rfl (hb hby at_195) rfl (XT.ii_ne_f hc195_89) stp) ?_
        refine own_up (S' := T56.setTop (mkF m 199 #[.val (.int a1), .val (.int b1), .val (.int c1), .val (.int x1), .val (.int se), .val (.int (2 : Int32)), .val (.int f0), .val (.int f1), .val (.int (0 : Int32)), .val (.ref ad41), .val (.ref ad50), .val (.int kk), .unset, .unset, .unset] [(.int a1)])) (fun t stp => XS.iloadN X56.here hx rfl (hb hby at_198) rfl stp) ?_
        refine own_up (S' := T56.setTop (mkF m 201 #[.val (.int a1), .val (.int b1), .val (.int c1), .val (.int x1), .val (.int se), .val (.int (2 : Int32)), .val (.int f0), .val (.int f1), .val (.int (0 : Int32)), .val (.ref ad41), .val (.ref ad50), .val (.int kk), .val (.int a1), .unset, .unset] [])) (fun t stp => XS.istore X56.here hx rfl (hb hby at_199) rfl (l' := #[.val (.int a1), .val (.int b1), .val (.int c1), .val (.int x1), .val (.int se), .val (.int (2 : Int32)), .val (.int f0), .val (.int f1), .val (.int (0 : Int32)), .val (.ref ad41), .val (.ref ad50), .val (.int kk), .val (.int a1), .unset, .unset]) rfl stp) ?_
        refine own_up (S' := T56.setTop (mkF m 219 #[.val (.int a1), .val (.int b1), .val (.int c1), .val (.int x1), .val (.int se), .val (.int (2 : Int32)), .val (.int f0), .val (.int f1), .val (.int (0 : Int32)), .val (.ref ad41), .val (.ref ad50), .val (.int kk), .val (.int a1), .unset, .unset] [])) (fun t stp => XS.goto X56.here hx rfl (pc0 := 201) (pc' := 219) rfl (hb hby at_201) (by decide) (by decide) stp) ?_
        exact J219_59 a1 _ N56 T56 X56 e56
      · have ihc195_89 : kk.toInt ≠ 1 := own_ine hc195_89
        refine own_up (S' := T56.setTop (mkF m 204 #[.val (.int a1), .val (.int b1), .val (.int c1), .val (.int x1), .val (.int se), .val (.int (2 : Int32)), .val (.int f0), .val (.int f1), .val (.int (0 : Int32)), .val (.ref ad41), .val (.ref ad50), .val (.int kk), .unset, .unset, .unset] [])) (fun t stp => XS.icmpYes X56.here hx rfl (pc0 := 195) (pc' := 204) rfl (hb hby at_195) rfl (XT.ii_ne_t hc195_89) (by decide) (by decide) stp) ?_
        refine own_up (S' := T56.setTop (mkF m 206 #[.val (.int a1), .val (.int b1), .val (.int c1), .val (.int x1), .val (.int se), .val (.int (2 : Int32)), .val (.int f0), .val (.int f1), .val (.int (0 : Int32)), .val (.ref ad41), .val (.ref ad50), .val (.int kk), .unset, .unset, .unset] [(.int kk)])) (fun t stp => XS.iload X56.here hx rfl (hb hby at_204) rfl stp) ?_
        refine own_up (S' := T56.setTop (mkF m 207 #[.val (.int a1), .val (.int b1), .val (.int c1), .val (.int x1), .val (.int se), .val (.int (2 : Int32)), .val (.int f0), .val (.int f1), .val (.int (0 : Int32)), .val (.ref ad41), .val (.ref ad50), .val (.int kk), .unset, .unset, .unset] [(.int (2 : Int32)), (.int kk)])) (fun t stp => XT.iconstV X56.here hx rfl (2 : Int32) (hb hby at_206) rfl stp) ?_
        by_cases hc207_90 : kk = (2 : Int32)
        · have ihc207_90 : kk.toInt = 2 := own_ieq hc207_90
          refine own_up (S' := T56.setTop (mkF m 210 #[.val (.int a1), .val (.int b1), .val (.int c1), .val (.int x1), .val (.int se), .val (.int (2 : Int32)), .val (.int f0), .val (.int f1), .val (.int (0 : Int32)), .val (.ref ad41), .val (.ref ad50), .val (.int kk), .unset, .unset, .unset] [])) (fun t stp => XS.icmpNo X56.here hx rfl (hb hby at_207) rfl (XT.ii_ne_f hc207_90) stp) ?_
          refine own_up (S' := T56.setTop (mkF m 211 #[.val (.int a1), .val (.int b1), .val (.int c1), .val (.int x1), .val (.int se), .val (.int (2 : Int32)), .val (.int f0), .val (.int f1), .val (.int (0 : Int32)), .val (.ref ad41), .val (.ref ad50), .val (.int kk), .unset, .unset, .unset] [(.int b1)])) (fun t stp => XS.iloadN X56.here hx rfl (hb hby at_210) rfl stp) ?_
          refine own_up (S' := T56.setTop (mkF m 213 #[.val (.int a1), .val (.int b1), .val (.int c1), .val (.int x1), .val (.int se), .val (.int (2 : Int32)), .val (.int f0), .val (.int f1), .val (.int (0 : Int32)), .val (.ref ad41), .val (.ref ad50), .val (.int kk), .val (.int b1), .unset, .unset] [])) (fun t stp => XS.istore X56.here hx rfl (hb hby at_211) rfl (l' := #[.val (.int a1), .val (.int b1), .val (.int c1), .val (.int x1), .val (.int se), .val (.int (2 : Int32)), .val (.int f0), .val (.int f1), .val (.int (0 : Int32)), .val (.ref ad41), .val (.ref ad50), .val (.int kk), .val (.int b1), .unset, .unset]) rfl stp) ?_
          refine own_up (S' := T56.setTop (mkF m 219 #[.val (.int a1), .val (.int b1), .val (.int c1), .val (.int x1), .val (.int se), .val (.int (2 : Int32)), .val (.int f0), .val (.int f1), .val (.int (0 : Int32)), .val (.ref ad41), .val (.ref ad50), .val (.int kk), .val (.int b1), .unset, .unset] [])) (fun t stp => XS.goto X56.here hx rfl (pc0 := 213) (pc' := 219) rfl (hb hby at_213) (by decide) (by decide) stp) ?_
          exact J219_59 b1 _ N56 T56 X56 e56
        · have ihc207_90 : kk.toInt ≠ 2 := own_ine hc207_90
          refine own_up (S' := T56.setTop (mkF m 216 #[.val (.int a1), .val (.int b1), .val (.int c1), .val (.int x1), .val (.int se), .val (.int (2 : Int32)), .val (.int f0), .val (.int f1), .val (.int (0 : Int32)), .val (.ref ad41), .val (.ref ad50), .val (.int kk), .unset, .unset, .unset] [])) (fun t stp => XS.icmpYes X56.here hx rfl (pc0 := 207) (pc' := 216) rfl (hb hby at_207) rfl (XT.ii_ne_t hc207_90) (by decide) (by decide) stp) ?_
          refine own_up (S' := T56.setTop (mkF m 217 #[.val (.int a1), .val (.int b1), .val (.int c1), .val (.int x1), .val (.int se), .val (.int (2 : Int32)), .val (.int f0), .val (.int f1), .val (.int (0 : Int32)), .val (.ref ad41), .val (.ref ad50), .val (.int kk), .unset, .unset, .unset] [(.int c1)])) (fun t stp => XS.iloadN X56.here hx rfl (hb hby at_216) rfl stp) ?_
          refine own_up (S' := T56.setTop (mkF m 219 #[.val (.int a1), .val (.int b1), .val (.int c1), .val (.int x1), .val (.int se), .val (.int (2 : Int32)), .val (.int f0), .val (.int f1), .val (.int (0 : Int32)), .val (.ref ad41), .val (.ref ad50), .val (.int kk), .val (.int c1), .unset, .unset] [])) (fun t stp => XS.istore X56.here hx rfl (hb hby at_217) rfl (l' := #[.val (.int a1), .val (.int b1), .val (.int c1), .val (.int x1), .val (.int se), .val (.int (2 : Int32)), .val (.int f0), .val (.int f1), .val (.int (0 : Int32)), .val (.ref ad41), .val (.ref ad50), .val (.int kk), .val (.int c1), .unset, .unset]) rfl stp) ?_
          exact J219_59 c1 _ N56 T56 X56 e56
  · refine own_up (S' := T0.setTop (mkF m 12 #[.val (.int a1), .val (.int b1), .val (.int c1), .val (.int x1), .val (.int se), .val (.int (3 : Int32)), .unset, .unset, .unset, .unset, .unset, .unset, .unset, .unset, .unset] [(.int (3 : Int32))])) (fun t stp => XS.iload X0.here hx rfl (hb hby at_10) rfl stp) ?_
    refine own_up (S' := T0.setTop (mkF m 13 #[.val (.int a1), .val (.int b1), .val (.int c1), .val (.int x1), .val (.int se), .val (.int (3 : Int32)), .unset, .unset, .unset, .unset, .unset, .unset, .unset, .unset, .unset] [(.int (1 : Int32)), (.int (3 : Int32))])) (fun t stp => XT.iconstV X0.here hx rfl (1 : Int32) (hb hby at_12) rfl stp) ?_
    have hc13_91 : ¬ ((3 : Int32) = (1 : Int32)) := by decide
    refine own_up (S' := T0.setTop (mkF m 47 #[.val (.int a1), .val (.int b1), .val (.int c1), .val (.int x1), .val (.int se), .val (.int (3 : Int32)), .unset, .unset, .unset, .unset, .unset, .unset, .unset, .unset, .unset] [])) (fun t stp => XS.icmpYes X0.here hx rfl (pc0 := 13) (pc' := 47) rfl (hb hby at_13) rfl (XT.ii_ne_t hc13_91) (by decide) (by decide) stp) ?_
    refine own_up (S' := T0.setTop (mkF m 49 #[.val (.int a1), .val (.int b1), .val (.int c1), .val (.int x1), .val (.int se), .val (.int (3 : Int32)), .unset, .unset, .unset, .unset, .unset, .unset, .unset, .unset, .unset] [(.int (3 : Int32))])) (fun t stp => XS.iload X0.here hx rfl (hb hby at_47) rfl stp) ?_
    refine own_up (S' := T0.setTop (mkF m 50 #[.val (.int a1), .val (.int b1), .val (.int c1), .val (.int x1), .val (.int se), .val (.int (3 : Int32)), .unset, .unset, .unset, .unset, .unset, .unset, .unset, .unset, .unset] [(.int (2 : Int32)), (.int (3 : Int32))])) (fun t stp => XT.iconstV X0.here hx rfl (2 : Int32) (hb hby at_49) rfl stp) ?_
    have hc50_92 : ¬ ((3 : Int32) = (2 : Int32)) := by decide
    refine own_up (S' := T0.setTop (mkF m 101 #[.val (.int a1), .val (.int b1), .val (.int c1), .val (.int x1), .val (.int se), .val (.int (3 : Int32)), .unset, .unset, .unset, .unset, .unset, .unset, .unset, .unset, .unset] [])) (fun t stp => XS.icmpYes X0.here hx rfl (pc0 := 50) (pc' := 101) rfl (hb hby at_50) rfl (XT.ii_ne_t hc50_92) (by decide) (by decide) stp) ?_
    refine own_up (S' := T0.setTop (mkF m 102 #[.val (.int a1), .val (.int b1), .val (.int c1), .val (.int x1), .val (.int se), .val (.int (3 : Int32)), .unset, .unset, .unset, .unset, .unset, .unset, .unset, .unset, .unset] [(.int a1)])) (fun t stp => XS.iloadN X0.here hx rfl (hb hby at_101) rfl stp) ?_
    refine own_up (S' := T0.setTop (mkF m 103 #[.val (.int a1), .val (.int b1), .val (.int c1), .val (.int x1), .val (.int se), .val (.int (3 : Int32)), .unset, .unset, .unset, .unset, .unset, .unset, .unset, .unset, .unset] [(.int b1), (.int a1)])) (fun t stp => XS.iloadN X0.here hx rfl (hb hby at_102) rfl stp) ?_
    refine own_callS X0 hx hZ hown (hw _ (List.mem_of_getElem? (i := 19) rfl)) (hw _ (List.mem_of_getElem? (i := 20) rfl)) (hw _ (List.mem_of_getElem? (i := 21) rfl)) (hw _ (List.mem_of_getElem? (i := 22) rfl)) (by decide) e0 (rm2 l Z a0 hw [] a1 b1 h0 n0 Z0 ) 0 [(.int a1), (.int b1)] [] (hb hby at_103) (lenOf own_pd2 rfl) (by decide) (by decide) (by decide) (by decide) rfl (by rw [hml]; rfl) rfl (by show 2 * 0 + _ ≤ _; exact Nat.le_of_eq rfl) rfl ?_
    intro T93 L93 r93 X93 q93
    obtain ⟨mi, rfl, hr_mi, M93, e93⟩ := q93
    have N93 := Fr.app N0 M93
    show own_Ends p e below s (own_Q0 Z a1 b1 c1 x1 se h0 n0) room_1.cells room_1.slots (T93.setTop (mkF m 106 #[.val (.int a1), .val (.int b1), .val (.int c1), .val (.int x1), .val (.int se), .val (.int (3 : Int32)), .unset, .unset, .unset, .unset, .unset, .unset, .unset, .unset, .unset] [(.int mi)]))
    refine own_up (S' := T93.setTop (mkF m 107 #[.val (.int a1), .val (.int b1), .val (.int c1), .val (.int x1), .val (.int se), .val (.int (3 : Int32)), .unset, .unset, .unset, .unset, .unset, .unset, .unset, .unset, .unset] [(.int c1), (.int mi)])) (fun t stp => XS.iloadN X93.here hx rfl (hb hby at_106) rfl stp) ?_
    refine own_callS X93 hx hZ hown (hw _ (List.mem_of_getElem? (i := 19) rfl)) (hw _ (List.mem_of_getElem? (i := 20) rfl)) (hw _ (List.mem_of_getElem? (i := 21) rfl)) (hw _ (List.mem_of_getElem? (i := 22) rfl)) (by decide) e93 (rm2 l Z a0 hw [] mi c1 h0 n0 Z0 ) 0 [(.int mi), (.int c1)] [] (hb hby at_107) (lenOf own_pd2 rfl) (by decide) (by decide) (by decide) (by decide) rfl (by rw [hml]; rfl) rfl (by show 2 * 0 + _ ≤ _; exact Nat.le_of_eq rfl) rfl ?_
    intro T94 L94 r94 X94 q94
    obtain ⟨f0, rfl, hr_f0, M94, e94⟩ := q94
    have N94 := Fr.app N93 M94
    show own_Ends p e below s (own_Q0 Z a1 b1 c1 x1 se h0 n0) room_1.cells room_1.slots (T94.setTop (mkF m 110 #[.val (.int a1), .val (.int b1), .val (.int c1), .val (.int x1), .val (.int se), .val (.int (3 : Int32)), .unset, .unset, .unset, .unset, .unset, .unset, .unset, .unset, .unset] [(.int f0)]))
    refine own_up (S' := T94.setTop (mkF m 112 #[.val (.int a1), .val (.int b1), .val (.int c1), .val (.int x1), .val (.int se), .val (.int (3 : Int32)), .val (.int f0), .unset, .unset, .unset, .unset, .unset, .unset, .unset, .unset] [])) (fun t stp => XS.istore X94.here hx rfl (hb hby at_110) rfl (l' := #[.val (.int a1), .val (.int b1), .val (.int c1), .val (.int x1), .val (.int se), .val (.int (3 : Int32)), .val (.int f0), .unset, .unset, .unset, .unset, .unset, .unset, .unset, .unset]) rfl stp) ?_
    refine own_up (S' := T94.setTop (mkF m 113 #[.val (.int a1), .val (.int b1), .val (.int c1), .val (.int x1), .val (.int se), .val (.int (3 : Int32)), .val (.int f0), .unset, .unset, .unset, .unset, .unset, .unset, .unset, .unset] [(.int a1)])) (fun t stp => XS.iloadN X94.here hx rfl (hb hby at_112) rfl stp) ?_
    refine own_up (S' := T94.setTop (mkF m 114 #[.val (.int a1), .val (.int b1), .val (.int c1), .val (.int x1), .val (.int se), .val (.int (3 : Int32)), .val (.int f0), .unset, .unset, .unset, .unset, .unset, .unset, .unset, .unset] [(.int b1), (.int a1)])) (fun t stp => XS.iloadN X94.here hx rfl (hb hby at_113) rfl stp) ?_
    refine own_callS X94 hx hZ hown (hw _ (List.mem_of_getElem? (i := 23) rfl)) (hw _ (List.mem_of_getElem? (i := 24) rfl)) (hw _ (List.mem_of_getElem? (i := 21) rfl)) (hw _ (List.mem_of_getElem? (i := 25) rfl)) (by decide) e94 (rm3 l Z a0 hw [] a1 b1 h0 n0 Z0 ) 0 [(.int a1), (.int b1)] [] (hb hby at_114) (lenOf own_pd2 rfl) (by decide) (by decide) (by decide) (by decide) rfl (by rw [hml]; rfl) rfl (by show 2 * 0 + _ ≤ _; exact Nat.le_of_eq rfl) rfl ?_
    intro T95 L95 r95 X95 q95
    obtain ⟨ma, rfl, hr_ma, M95, e95⟩ := q95
    have N95 := Fr.app N94 M95
    show own_Ends p e below s (own_Q0 Z a1 b1 c1 x1 se h0 n0) room_1.cells room_1.slots (T95.setTop (mkF m 117 #[.val (.int a1), .val (.int b1), .val (.int c1), .val (.int x1), .val (.int se), .val (.int (3 : Int32)), .val (.int f0), .unset, .unset, .unset, .unset, .unset, .unset, .unset, .unset] [(.int ma)]))
    refine own_up (S' := T95.setTop (mkF m 118 #[.val (.int a1), .val (.int b1), .val (.int c1), .val (.int x1), .val (.int se), .val (.int (3 : Int32)), .val (.int f0), .unset, .unset, .unset, .unset, .unset, .unset, .unset, .unset] [(.int c1), (.int ma)])) (fun t stp => XS.iloadN X95.here hx rfl (hb hby at_117) rfl stp) ?_
    refine own_callS X95 hx hZ hown (hw _ (List.mem_of_getElem? (i := 23) rfl)) (hw _ (List.mem_of_getElem? (i := 24) rfl)) (hw _ (List.mem_of_getElem? (i := 21) rfl)) (hw _ (List.mem_of_getElem? (i := 25) rfl)) (by decide) e95 (rm3 l Z a0 hw [] ma c1 h0 n0 Z0 ) 0 [(.int ma), (.int c1)] [] (hb hby at_118) (lenOf own_pd2 rfl) (by decide) (by decide) (by decide) (by decide) rfl (by rw [hml]; rfl) rfl (by show 2 * 0 + _ ≤ _; exact Nat.le_of_eq rfl) rfl ?_
    intro T96 L96 r96 X96 q96
    obtain ⟨f2, rfl, hr_f2, M96, e96⟩ := q96
    have N96 := Fr.app N95 M96
    show own_Ends p e below s (own_Q0 Z a1 b1 c1 x1 se h0 n0) room_1.cells room_1.slots (T96.setTop (mkF m 121 #[.val (.int a1), .val (.int b1), .val (.int c1), .val (.int x1), .val (.int se), .val (.int (3 : Int32)), .val (.int f0), .unset, .unset, .unset, .unset, .unset, .unset, .unset, .unset] [(.int f2)]))
    refine own_up (S' := T96.setTop (mkF m 123 #[.val (.int a1), .val (.int b1), .val (.int c1), .val (.int x1), .val (.int se), .val (.int (3 : Int32)), .val (.int f0), .unset, .val (.int f2), .unset, .unset, .unset, .unset, .unset, .unset] [])) (fun t stp => XS.istore X96.here hx rfl (hb hby at_121) rfl (l' := #[.val (.int a1), .val (.int b1), .val (.int c1), .val (.int x1), .val (.int se), .val (.int (3 : Int32)), .val (.int f0), .unset, .val (.int f2), .unset, .unset, .unset, .unset, .unset, .unset]) rfl stp) ?_
    refine own_up (S' := T96.setTop (mkF m 124 #[.val (.int a1), .val (.int b1), .val (.int c1), .val (.int x1), .val (.int se), .val (.int (3 : Int32)), .val (.int f0), .unset, .val (.int f2), .unset, .unset, .unset, .unset, .unset, .unset] [(.int a1)])) (fun t stp => XS.iloadN X96.here hx rfl (hb hby at_123) rfl stp) ?_
    refine own_up (S' := T96.setTop (mkF m 125 #[.val (.int a1), .val (.int b1), .val (.int c1), .val (.int x1), .val (.int se), .val (.int (3 : Int32)), .val (.int f0), .unset, .val (.int f2), .unset, .unset, .unset, .unset, .unset, .unset] [(.int b1), (.int a1)])) (fun t stp => XS.iloadN X96.here hx rfl (hb hby at_124) rfl stp) ?_
    refine own_up (S' := T96.setTop (mkF m 126 #[.val (.int a1), .val (.int b1), .val (.int c1), .val (.int x1), .val (.int se), .val (.int (3 : Int32)), .val (.int f0), .unset, .val (.int f2), .unset, .unset, .unset, .unset, .unset, .unset] [(.int (a1 + b1))])) (fun t stp => XS.iadd X96.here hx rfl (hb hby at_125) rfl stp) ?_
    refine own_up (S' := T96.setTop (mkF m 127 #[.val (.int a1), .val (.int b1), .val (.int c1), .val (.int x1), .val (.int se), .val (.int (3 : Int32)), .val (.int f0), .unset, .val (.int f2), .unset, .unset, .unset, .unset, .unset, .unset] [(.int c1), (.int (a1 + b1))])) (fun t stp => XS.iloadN X96.here hx rfl (hb hby at_126) rfl stp) ?_
    refine own_up (S' := T96.setTop (mkF m 128 #[.val (.int a1), .val (.int b1), .val (.int c1), .val (.int x1), .val (.int se), .val (.int (3 : Int32)), .val (.int f0), .unset, .val (.int f2), .unset, .unset, .unset, .unset, .unset, .unset] [(.int ((a1 + b1) + c1))])) (fun t stp => XS.iadd X96.here hx rfl (hb hby at_127) rfl stp) ?_
    refine own_up (S' := T96.setTop (mkF m 130 #[.val (.int a1), .val (.int b1), .val (.int c1), .val (.int x1), .val (.int se), .val (.int (3 : Int32)), .val (.int f0), .unset, .val (.int f2), .unset, .unset, .unset, .unset, .unset, .unset] [(.int f0), (.int ((a1 + b1) + c1))])) (fun t stp => XS.iload X96.here hx rfl (hb hby at_128) rfl stp) ?_
    refine own_up (S' := T96.setTop (mkF m 131 #[.val (.int a1), .val (.int b1), .val (.int c1), .val (.int x1), .val (.int se), .val (.int (3 : Int32)), .val (.int f0), .unset, .val (.int f2), .unset, .unset, .unset, .unset, .unset, .unset] [(.int (((a1 + b1) + c1) - f0))])) (fun t stp => XS.isub X96.here hx rfl (hb hby at_130) rfl stp) ?_
    refine own_up (S' := T96.setTop (mkF m 133 #[.val (.int a1), .val (.int b1), .val (.int c1), .val (.int x1), .val (.int se), .val (.int (3 : Int32)), .val (.int f0), .unset, .val (.int f2), .unset, .unset, .unset, .unset, .unset, .unset] [(.int f2), (.int (((a1 + b1) + c1) - f0))])) (fun t stp => XS.iload X96.here hx rfl (hb hby at_131) rfl stp) ?_
    refine own_up (S' := T96.setTop (mkF m 134 #[.val (.int a1), .val (.int b1), .val (.int c1), .val (.int x1), .val (.int se), .val (.int (3 : Int32)), .val (.int f0), .unset, .val (.int f2), .unset, .unset, .unset, .unset, .unset, .unset] [(.int ((((a1 + b1) + c1) - f0) - f2))])) (fun t stp => XS.isub X96.here hx rfl (hb hby at_133) rfl stp) ?_
    obtain ⟨f1, h_f1⟩ : ∃ z : Int32, z = ((((a1 + b1) + c1) - f0) - f2) := ⟨_, rfl⟩
    rw [← h_f1]
    refine own_up (S' := T96.setTop (mkF m 136 #[.val (.int a1), .val (.int b1), .val (.int c1), .val (.int x1), .val (.int se), .val (.int (3 : Int32)), .val (.int f0), .val (.int f1), .val (.int f2), .unset, .unset, .unset, .unset, .unset, .unset] [])) (fun t stp => XS.istore X96.here hx rfl (hb hby at_134) rfl (l' := #[.val (.int a1), .val (.int b1), .val (.int c1), .val (.int x1), .val (.int se), .val (.int (3 : Int32)), .val (.int f0), .val (.int f1), .val (.int f2), .unset, .unset, .unset, .unset, .unset, .unset]) rfl stp) ?_
    refine own_up (S' := T96.setTop (mkF m 137 #[.val (.int a1), .val (.int b1), .val (.int c1), .val (.int x1), .val (.int se), .val (.int (3 : Int32)), .val (.int f0), .val (.int f1), .val (.int f2), .unset, .unset, .unset, .unset, .unset, .unset] [(.int (3 : Int32))])) (fun t stp => XT.iconstV X96.here hx rfl (3 : Int32) (hb hby at_136) rfl stp) ?_
    refine own_newa X96 hx hZ (ty := .int) rfl (hw _ (List.mem_of_getElem? (i := 0) rfl)) e96 3 (hb hby at_137) (rfl) 3 (by decide) (by decide) (by decide) (by decide) rfl rfl ?_
    intro T97 h97 ad97 hb97 X97 e97 E97 A97
    have g_ad97 : n0 ≤ ad97 := Nat.le_trans Z0 (Nat.le_of_eq hb97.symm)
    have Zn98 := Nat.le_trans Z0 E97.1
    have Al97 : own_Al Z h97 ad97 .int [(.int (0 : Int32)), (.int (0 : Int32)), (.int (0 : Int32))] := A97
    show own_Ends p e below s (own_Q0 Z a1 b1 c1 x1 se h0 n0) room_1.cells room_1.slots (T97.setTop (mkF m 139 #[.val (.int a1), .val (.int b1), .val (.int c1), .val (.int x1), .val (.int se), .val (.int (3 : Int32)), .val (.int f0), .val (.int f1), .val (.int f2), .unset, .unset, .unset, .unset, .unset, .unset] [(.ref ad97)]))
    refine own_up (S' := T97.setTop (mkF m 140 #[.val (.int a1), .val (.int b1), .val (.int c1), .val (.int x1), .val (.int se), .val (.int (3 : Int32)), .val (.int f0), .val (.int f1), .val (.int f2), .unset, .unset, .unset, .unset, .unset, .unset] [(.ref ad97), (.ref ad97)])) (fun t stp => XS.dup X97.here hx rfl (hb hby at_139) rfl rfl stp) ?_
    refine own_up (S' := T97.setTop (mkF m 141 #[.val (.int a1), .val (.int b1), .val (.int c1), .val (.int x1), .val (.int se), .val (.int (3 : Int32)), .val (.int f0), .val (.int f1), .val (.int f2), .unset, .unset, .unset, .unset, .unset, .unset] [(.int (0 : Int32)), (.ref ad97), (.ref ad97)])) (fun t stp => XT.iconstV X97.here hx rfl (0 : Int32) (hb hby at_140) rfl stp) ?_
    refine own_up (S' := T97.setTop (mkF m 143 #[.val (.int a1), .val (.int b1), .val (.int c1), .val (.int x1), .val (.int se), .val (.int (3 : Int32)), .val (.int f0), .val (.int f1), .val (.int f2), .unset, .unset, .unset, .unset, .unset, .unset] [(.int f0), (.int (0 : Int32)), (.ref ad97), (.ref ad97)])) (fun t stp => XS.iload X97.here hx rfl (hb hby at_141) rfl stp) ?_
    refine own_sti X97 hx hZ e97 Al97 0 (hb hby at_143) (rfl) (Nat.le_of_ble_eq_true rfl) rfl rfl (g' := (mkF m 144 #[.val (.int a1), .val (.int b1), .val (.int c1), .val (.int x1), .val (.int se), .val (.int (3 : Int32)), .val (.int f0), .val (.int f1), .val (.int f2), .unset, .unset, .unset, .unset, .unset, .unset] [(.ref ad97)])) rfl ?_
    intro T100 h100 X100 e100 W100 B100
    have Zn101 := Nat.le_trans Zn98 (Nat.le_of_eq W100.size.symm)
    have N100 := Fr.snoc X100 N96 g_ad97
    have Al100 : own_Al Z h100 ad97 .int [(.int f0), (.int (0 : Int32)), (.int (0 : Int32))] := B100
    refine own_up (S' := T100.setTop (mkF m 145 #[.val (.int a1), .val (.int b1), .val (.int c1), .val (.int x1), .val (.int se), .val (.int (3 : Int32)), .val (.int f0), .val (.int f1), .val (.int f2), .unset, .unset, .unset, .unset, .unset, .unset] [(.ref ad97), (.ref ad97)])) (fun t stp => XS.dup X100.here hx rfl (hb hby at_144) rfl rfl stp) ?_
    refine own_up (S' := T100.setTop (mkF m 146 #[.val (.int a1), .val (.int b1), .val (.int c1), .val (.int x1), .val (.int se), .val (.int (3 : Int32)), .val (.int f0), .val (.int f1), .val (.int f2), .unset, .unset, .unset, .unset, .unset, .unset] [(.int (1 : Int32)), (.ref ad97), (.ref ad97)])) (fun t stp => XT.iconstV X100.here hx rfl (1 : Int32) (hb hby at_145) rfl stp) ?_
    refine own_up (S' := T100.setTop (mkF m 148 #[.val (.int a1), .val (.int b1), .val (.int c1), .val (.int x1), .val (.int se), .val (.int (3 : Int32)), .val (.int f0), .val (.int f1), .val (.int f2), .unset, .unset, .unset, .unset, .unset, .unset] [(.int f1), (.int (1 : Int32)), (.ref ad97), (.ref ad97)])) (fun t stp => XS.iload X100.here hx rfl (hb hby at_146) rfl stp) ?_
    refine own_sti X100 hx hZ e100 Al100 1 (hb hby at_148) (rfl) (Nat.le_of_ble_eq_true rfl) rfl rfl (g' := (mkF m 149 #[.val (.int a1), .val (.int b1), .val (.int c1), .val (.int x1), .val (.int se), .val (.int (3 : Int32)), .val (.int f0), .val (.int f1), .val (.int f2), .unset, .unset, .unset, .unset, .unset, .unset] [(.ref ad97)])) rfl ?_
    intro T103 h103 X103 e103 W103 B103
    have Zn104 := Nat.le_trans Zn101 (Nat.le_of_eq W103.size.symm)
    have N103 := Fr.snoc X103 N100 g_ad97
    have Al103 : own_Al Z h103 ad97 .int [(.int f0), (.int f1), (.int (0 : Int32))] := B103
    refine own_up (S' := T103.setTop (mkF m 150 #[.val (.int a1), .val (.int b1), .val (.int c1), .val (.int x1), .val (.int se), .val (.int (3 : Int32)), .val (.int f0), .val (.int f1), .val (.int f2), .unset, .unset, .unset, .unset, .unset, .unset] [(.ref ad97), (.ref ad97)])) (fun t stp => XS.dup X103.here hx rfl (hb hby at_149) rfl rfl stp) ?_
    refine own_up (S' := T103.setTop (mkF m 151 #[.val (.int a1), .val (.int b1), .val (.int c1), .val (.int x1), .val (.int se), .val (.int (3 : Int32)), .val (.int f0), .val (.int f1), .val (.int f2), .unset, .unset, .unset, .unset, .unset, .unset] [(.int (2 : Int32)), (.ref ad97), (.ref ad97)])) (fun t stp => XT.iconstV X103.here hx rfl (2 : Int32) (hb hby at_150) rfl stp) ?_
    refine own_up (S' := T103.setTop (mkF m 153 #[.val (.int a1), .val (.int b1), .val (.int c1), .val (.int x1), .val (.int se), .val (.int (3 : Int32)), .val (.int f0), .val (.int f1), .val (.int f2), .unset, .unset, .unset, .unset, .unset, .unset] [(.int f2), (.int (2 : Int32)), (.ref ad97), (.ref ad97)])) (fun t stp => XS.iload X103.here hx rfl (hb hby at_151) rfl stp) ?_
    refine own_sti X103 hx hZ e103 Al103 2 (hb hby at_153) (rfl) (Nat.le_of_ble_eq_true rfl) rfl rfl (g' := (mkF m 154 #[.val (.int a1), .val (.int b1), .val (.int c1), .val (.int x1), .val (.int se), .val (.int (3 : Int32)), .val (.int f0), .val (.int f1), .val (.int f2), .unset, .unset, .unset, .unset, .unset, .unset] [(.ref ad97)])) rfl ?_
    intro T106 h106 X106 e106 W106 B106
    have Zn107 := Nat.le_trans Zn104 (Nat.le_of_eq W106.size.symm)
    have N106 := Fr.snoc X106 N103 g_ad97
    have Al106 : own_Al Z h106 ad97 .int [(.int f0), (.int f1), (.int f2)] := B106
    refine own_up (S' := T106.setTop (mkF m 156 #[.val (.int a1), .val (.int b1), .val (.int c1), .val (.int x1), .val (.int se), .val (.int (3 : Int32)), .val (.int f0), .val (.int f1), .val (.int f2), .val (.ref ad97), .unset, .unset, .unset, .unset, .unset] [])) (fun t stp => XS.astore X106.here hx rfl (hb hby at_154) rfl rfl (l' := #[.val (.int a1), .val (.int b1), .val (.int c1), .val (.int x1), .val (.int se), .val (.int (3 : Int32)), .val (.int f0), .val (.int f1), .val (.int f2), .val (.ref ad97), .unset, .unset, .unset, .unset, .unset]) rfl stp) ?_
    refine own_up (S' := T106.setTop (mkF m 157 #[.val (.int a1), .val (.int b1), .val (.int c1), .val (.int x1), .val (.int se), .val (.int (3 : Int32)), .val (.int f0), .val (.int f1), .val (.int f2), .val (.ref ad97), .unset, .unset, .unset, .unset, .unset] [(.int (3 : Int32))])) (fun t stp => XT.iconstV X106.here hx rfl (3 : Int32) (hb hby at_156) rfl stp) ?_
    refine own_newa X106 hx hZ (ty := .int) rfl (hw _ (List.mem_of_getElem? (i := 0) rfl)) e106 3 (hb hby at_157) (rfl) 3 (by decide) (by decide) (by decide) (by decide) rfl rfl ?_
    intro T109 h109 ad109 hb109 X109 e109 E109 A109
    have ne109_ad97_ad109 : ad97 ≠ ad109 := Nat.ne_of_lt (Nat.lt_of_lt_of_eq (own_Al_lt Al106) hb109.symm)
    have g_ad109 : n0 ≤ ad109 := Nat.le_trans Zn107 (Nat.le_of_eq hb109.symm)
    have Zn110 := Nat.le_trans Zn107 E109.1
    have Al106_111 := own_Al_ext E109 Al106
    have Al109 : own_Al Z h109 ad109 .int [(.int (0 : Int32)), (.int (0 : Int32)), (.int (0 : Int32))] := A109
    show own_Ends p e below s (own_Q0 Z a1 b1 c1 x1 se h0 n0) room_1.cells room_1.slots (T109.setTop (mkF m 159 #[.val (.int a1), .val (.int b1), .val (.int c1), .val (.int x1), .val (.int se), .val (.int (3 : Int32)), .val (.int f0), .val (.int f1), .val (.int f2), .val (.ref ad97), .unset, .unset, .unset, .unset, .unset] [(.ref ad109)]))
    refine own_up (S' := T109.setTop (mkF m 160 #[.val (.int a1), .val (.int b1), .val (.int c1), .val (.int x1), .val (.int se), .val (.int (3 : Int32)), .val (.int f0), .val (.int f1), .val (.int f2), .val (.ref ad97), .unset, .unset, .unset, .unset, .unset] [(.ref ad109), (.ref ad109)])) (fun t stp => XS.dup X109.here hx rfl (hb hby at_159) rfl rfl stp) ?_
    refine own_up (S' := T109.setTop (mkF m 161 #[.val (.int a1), .val (.int b1), .val (.int c1), .val (.int x1), .val (.int se), .val (.int (3 : Int32)), .val (.int f0), .val (.int f1), .val (.int f2), .val (.ref ad97), .unset, .unset, .unset, .unset, .unset] [(.int (0 : Int32)), (.ref ad109), (.ref ad109)])) (fun t stp => XT.iconstV X109.here hx rfl (0 : Int32) (hb hby at_160) rfl stp) ?_
    refine own_up (S' := T109.setTop (mkF m 162 #[.val (.int a1), .val (.int b1), .val (.int c1), .val (.int x1), .val (.int se), .val (.int (3 : Int32)), .val (.int f0), .val (.int f1), .val (.int f2), .val (.ref ad97), .unset, .unset, .unset, .unset, .unset] [(.int (0 : Int32)), (.int (0 : Int32)), (.ref ad109), (.ref ad109)])) (fun t stp => XT.iconstV X109.here hx rfl (0 : Int32) (hb hby at_161) rfl stp) ?_
    refine own_sti X109 hx hZ e109 Al109 0 (hb hby at_162) (rfl) (Nat.le_of_ble_eq_true rfl) rfl rfl (g' := (mkF m 163 #[.val (.int a1), .val (.int b1), .val (.int c1), .val (.int x1), .val (.int se), .val (.int (3 : Int32)), .val (.int f0), .val (.int f1), .val (.int f2), .val (.ref ad97), .unset, .unset, .unset, .unset, .unset] [(.ref ad109)])) rfl ?_
    intro T112 h112 X112 e112 W112 B112
    have Zn113 := Nat.le_trans Zn110 (Nat.le_of_eq W112.size.symm)
    have Al106_114 := own_Al_oth W112 Al106_111 ne109_ad97_ad109
    have N112 := Fr.snoc X112 N106 g_ad109
    have Al112 : own_Al Z h112 ad109 .int [(.int (0 : Int32)), (.int (0 : Int32)), (.int (0 : Int32))] := B112
    refine own_up (S' := T112.setTop (mkF m 164 #[.val (.int a1), .val (.int b1), .val (.int c1), .val (.int x1), .val (.int se), .val (.int (3 : Int32)), .val (.int f0), .val (.int f1), .val (.int f2), .val (.ref ad97), .unset, .unset, .unset, .unset, .unset] [(.ref ad109), (.ref ad109)])) (fun t stp => XS.dup X112.here hx rfl (hb hby at_163) rfl rfl stp) ?_
    refine own_up (S' := T112.setTop (mkF m 165 #[.val (.int a1), .val (.int b1), .val (.int c1), .val (.int x1), .val (.int se), .val (.int (3 : Int32)), .val (.int f0), .val (.int f1), .val (.int f2), .val (.ref ad97), .unset, .unset, .unset, .unset, .unset] [(.int (1 : Int32)), (.ref ad109), (.ref ad109)])) (fun t stp => XT.iconstV X112.here hx rfl (1 : Int32) (hb hby at_164) rfl stp) ?_
    refine own_up (S' := T112.setTop (mkF m 166 #[.val (.int a1), .val (.int b1), .val (.int c1), .val (.int x1), .val (.int se), .val (.int (3 : Int32)), .val (.int f0), .val (.int f1), .val (.int f2), .val (.ref ad97), .unset, .unset, .unset, .unset, .unset] [(.int (1 : Int32)), (.int (1 : Int32)), (.ref ad109), (.ref ad109)])) (fun t stp => XT.iconstV X112.here hx rfl (1 : Int32) (hb hby at_165) rfl stp) ?_
    refine own_sti X112 hx hZ e112 Al112 1 (hb hby at_166) (rfl) (Nat.le_of_ble_eq_true rfl) rfl rfl (g' := (mkF m 167 #[.val (.int a1), .val (.int b1), .val (.int c1), .val (.int x1), .val (.int se), .val (.int (3 : Int32)), .val (.int f0), .val (.int f1), .val (.int f2), .val (.ref ad97), .unset, .unset, .unset, .unset, .unset] [(.ref ad109)])) rfl ?_
    intro T115 h115 X115 e115 W115 B115
    have Zn116 := Nat.le_trans Zn113 (Nat.le_of_eq W115.size.symm)
    have Al106_117 := own_Al_oth W115 Al106_114 ne109_ad97_ad109
    have N115 := Fr.snoc X115 N112 g_ad109
    have Al115 : own_Al Z h115 ad109 .int [(.int (0 : Int32)), (.int (1 : Int32)), (.int (0 : Int32))] := B115
    refine own_up (S' := T115.setTop (mkF m 168 #[.val (.int a1), .val (.int b1), .val (.int c1), .val (.int x1), .val (.int se), .val (.int (3 : Int32)), .val (.int f0), .val (.int f1), .val (.int f2), .val (.ref ad97), .unset, .unset, .unset, .unset, .unset] [(.ref ad109), (.ref ad109)])) (fun t stp => XS.dup X115.here hx rfl (hb hby at_167) rfl rfl stp) ?_
    refine own_up (S' := T115.setTop (mkF m 169 #[.val (.int a1), .val (.int b1), .val (.int c1), .val (.int x1), .val (.int se), .val (.int (3 : Int32)), .val (.int f0), .val (.int f1), .val (.int f2), .val (.ref ad97), .unset, .unset, .unset, .unset, .unset] [(.int (2 : Int32)), (.ref ad109), (.ref ad109)])) (fun t stp => XT.iconstV X115.here hx rfl (2 : Int32) (hb hby at_168) rfl stp) ?_
    refine own_up (S' := T115.setTop (mkF m 170 #[.val (.int a1), .val (.int b1), .val (.int c1), .val (.int x1), .val (.int se), .val (.int (3 : Int32)), .val (.int f0), .val (.int f1), .val (.int f2), .val (.ref ad97), .unset, .unset, .unset, .unset, .unset] [(.int (2 : Int32)), (.int (2 : Int32)), (.ref ad109), (.ref ad109)])) (fun t stp => XT.iconstV X115.here hx rfl (2 : Int32) (hb hby at_169) rfl stp) ?_
    refine own_sti X115 hx hZ e115 Al115 2 (hb hby at_170) (rfl) (Nat.le_of_ble_eq_true rfl) rfl rfl (g' := (mkF m 171 #[.val (.int a1), .val (.int b1), .val (.int c1), .val (.int x1), .val (.int se), .val (.int (3 : Int32)), .val (.int f0), .val (.int f1), .val (.int f2), .val (.ref ad97), .unset, .unset, .unset, .unset, .unset] [(.ref ad109)])) rfl ?_
    intro T118 h118 X118 e118 W118 B118
    have Zn119 := Nat.le_trans Zn116 (Nat.le_of_eq W118.size.symm)
    have Al106_120 := own_Al_oth W118 Al106_117 ne109_ad97_ad109
    have N118 := Fr.snoc X118 N115 g_ad109
    have Al118 : own_Al Z h118 ad109 .int [(.int (0 : Int32)), (.int (1 : Int32)), (.int (2 : Int32))] := B118
    refine own_up (S' := T118.setTop (mkF m 173 #[.val (.int a1), .val (.int b1), .val (.int c1), .val (.int x1), .val (.int se), .val (.int (3 : Int32)), .val (.int f0), .val (.int f1), .val (.int f2), .val (.ref ad97), .val (.ref ad109), .unset, .unset, .unset, .unset] [])) (fun t stp => XS.astore X118.here hx rfl (hb hby at_171) rfl rfl (l' := #[.val (.int a1), .val (.int b1), .val (.int c1), .val (.int x1), .val (.int se), .val (.int (3 : Int32)), .val (.int f0), .val (.int f1), .val (.int f2), .val (.ref ad97), .val (.ref ad109), .unset, .unset, .unset, .unset]) rfl stp) ?_
    refine own_up (S' := T118.setTop (mkF m 175 #[.val (.int a1), .val (.int b1), .val (.int c1), .val (.int x1), .val (.int se), .val (.int (3 : Int32)), .val (.int f0), .val (.int f1), .val (.int f2), .val (.ref ad97), .val (.ref ad109), .unset, .unset, .unset, .unset] [(.int se)])) (fun t stp => XS.iload X118.here hx rfl (hb hby at_173) rfl stp) ?_
    refine own_up (S' := T118.setTop (mkF m 176 #[.val (.int a1), .val (.int b1), .val (.int c1), .val (.int x1), .val (.int se), .val (.int (3 : Int32)), .val (.int f0), .val (.int f1), .val (.int f2), .val (.ref ad97), .val (.ref ad109), .unset, .unset, .unset, .unset] [(.int (2 : Int32)), (.int se)])) (fun t stp => XT.iconstV X118.here hx rfl (2 : Int32) (hb hby at_175) rfl stp) ?_
    refine own_up (S' := T118.setTop (mkF m 177 #[.val (.int a1), .val (.int b1), .val (.int c1), .val (.int x1), .val (.int se), .val (.int (3 : Int32)), .val (.int f0), .val (.int f1), .val (.int f2), .val (.ref ad97), .val (.ref ad109), .unset, .unset, .unset, .unset] [(.int (XT.ushr se (2 : Int32)))])) (fun t stp => XT.iushr X118.here hx rfl (hb hby at_176) rfl stp) ?_
    refine own_up (S' := T118.setTop (mkF m 178 #[.val (.int a1), .val (.int b1), .val (.int c1), .val (.int x1), .val (.int se), .val (.int (3 : Int32)), .val (.int f0), .val (.int f1), .val (.int f2), .val (.ref ad97), .val (.ref ad109), .unset, .unset, .unset, .unset] [(.int (3 : Int32)), (.int (XT.ushr se (2 : Int32)))])) (fun t stp => XT.iconstV X118.here hx rfl (3 : Int32) (hb hby at_177) rfl stp) ?_
    refine own_up (S' := T118.setTop (mkF m 179 #[.val (.int a1), .val (.int b1), .val (.int c1), .val (.int x1), .val (.int se), .val (.int (3 : Int32)), .val (.int f0), .val (.int f1), .val (.int f2), .val (.ref ad97), .val (.ref ad109), .unset, .unset, .unset, .unset] [(.int ((XT.ushr se (2 : Int32)) &&& (3 : Int32)))])) (fun t stp => XS.iand X118.here hx rfl (hb hby at_178) rfl stp) ?_
    obtain ⟨kk, h_kk⟩ : ∃ z : Int32, z = ((XT.ushr se (2 : Int32)) &&& (3 : Int32)) := ⟨_, rfl⟩
    rw [← h_kk]
    refine own_up (S' := T118.setTop (mkF m 181 #[.val (.int a1), .val (.int b1), .val (.int c1), .val (.int x1), .val (.int se), .val (.int (3 : Int32)), .val (.int f0), .val (.int f1), .val (.int f2), .val (.ref ad97), .val (.ref ad109), .val (.int kk), .unset, .unset, .unset] [])) (fun t stp => XS.istore X118.here hx rfl (hb hby at_179) rfl (l' := #[.val (.int a1), .val (.int b1), .val (.int c1), .val (.int x1), .val (.int se), .val (.int (3 : Int32)), .val (.int f0), .val (.int f1), .val (.int f2), .val (.ref ad97), .val (.ref ad109), .val (.int kk), .unset, .unset, .unset]) rfl stp) ?_
    have J219_121 : ∀ (qv : Int32) (Lj121 : List Loc) (Nj121 : Fr n0 Lj121) (Tj121 : State) (Xj121 : Stand p l e room_1 s m #[(.int a1), (.int b1), (.int c1), (.int x1), (.int se)] below meth c Tj121 Lj121 2 6) (ej121 : Tj121.heap = h118), own_Ends p e below s (own_Q0 Z a1 b1 c1 x1 se h0 n0) room_1.cells room_1.slots (Tj121.setTop (mkF m 219 #[.val (.int a1), .val (.int b1), .val (.int c1), .val (.int x1), .val (.int se), .val (.int (3 : Int32)), .val (.int f0), .val (.int f1), .val (.int f2), .val (.ref ad97), .val (.ref ad109), .val (.int kk), .val (.int qv), .unset, .unset] [])) := by
      intro qv Lj121 Nj121 Tj121 Xj121 ej121
      refine own_up (S' := Tj121.setTop (mkF m 221 #[.val (.int a1), .val (.int b1), .val (.int c1), .val (.int x1), .val (.int se), .val (.int (3 : Int32)), .val (.int f0), .val (.int f1), .val (.int f2), .val (.ref ad97), .val (.ref ad109), .val (.int kk), .val (.int qv), .unset, .unset] [(.int qv)])) (fun t stp => XS.iload Xj121.here hx rfl (hb hby at_219) rfl stp) ?_
      refine own_up (S' := Tj121.setTop (mkF m 223 #[.val (.int a1), .val (.int b1), .val (.int c1), .val (.int x1), .val (.int se), .val (.int (3 : Int32)), .val (.int f0), .val (.int f1), .val (.int f2), .val (.ref ad97), .val (.ref ad109), .val (.int kk), .val (.int qv), .unset, .unset] [(.int f0), (.int qv)])) (fun t stp => XS.iload Xj121.here hx rfl (hb hby at_221) rfl stp) ?_
      by_cases hc223_122 : qv = f0
      · have ihc223_122 : qv.toInt = f0.toInt := own_ieq hc223_122
        refine own_up (S' := Tj121.setTop (mkF m 252 #[.val (.int a1), .val (.int b1), .val (.int c1), .val (.int x1), .val (.int se), .val (.int (3 : Int32)), .val (.int f0), .val (.int f1), .val (.int f2), .val (.ref ad97), .val (.ref ad109), .val (.int kk), .val (.int qv), .unset, .unset] [])) (fun t stp => XS.icmpYes Xj121.here hx rfl (pc0 := 223) (pc' := 252) rfl (hb hby at_223) rfl (XT.ii_eq_t hc223_122) (by decide) (by decide) stp) ?_
        refine own_up (S' := Tj121.setTop (mkF m 253 #[.val (.int a1), .val (.int b1), .val (.int c1), .val (.int x1), .val (.int se), .val (.int (3 : Int32)), .val (.int f0), .val (.int f1), .val (.int f2), .val (.ref ad97), .val (.ref ad109), .val (.int kk), .val (.int qv), .unset, .unset] [(.int (1 : Int32))])) (fun t stp => XT.iconstV Xj121.here hx rfl (1 : Int32) (hb hby at_252) rfl stp) ?_
        refine own_up (S' := Tj121.setTop (mkF m 257 #[.val (.int a1), .val (.int b1), .val (.int c1), .val (.int x1), .val (.int se), .val (.int (3 : Int32)), .val (.int f0), .val (.int f1), .val (.int f2), .val (.ref ad97), .val (.ref ad109), .val (.int kk), .val (.int qv), .unset, .unset] [(.int (1 : Int32))])) (fun t stp => XS.goto Xj121.here hx rfl (pc0 := 253) (pc' := 257) rfl (hb hby at_253) (by decide) (by decide) stp) ?_
        refine own_up (S' := Tj121.setTop (mkF m 259 #[.val (.int a1), .val (.int b1), .val (.int c1), .val (.int x1), .val (.int se), .val (.int (3 : Int32)), .val (.int f0), .val (.int f1), .val (.int f2), .val (.ref ad97), .val (.ref ad109), .val (.int kk), .val (.int qv), .val (.int (1 : Int32)), .unset] [])) (fun t stp => XS.istore Xj121.here hx rfl (hb hby at_257) rfl (l' := #[.val (.int a1), .val (.int b1), .val (.int c1), .val (.int x1), .val (.int se), .val (.int (3 : Int32)), .val (.int f0), .val (.int f1), .val (.int f2), .val (.ref ad97), .val (.ref ad109), .val (.int kk), .val (.int qv), .val (.int (1 : Int32)), .unset]) rfl stp) ?_
        refine own_new Xj121 hx hZ hown (hw _ (List.mem_of_getElem? (i := 1) rfl)) (hw _ (List.mem_of_getElem? (i := 2) rfl)) (hw _ (List.mem_of_getElem? (i := 3) rfl)) ej121 rfl (hb hby at_259) (by decide) (by decide) ?_
        intro T123 h123 ob hb123 X123 e123 E123 A123 D123
        have ne123_ad97_ob : ad97 ≠ ob := Nat.ne_of_lt (Nat.lt_of_lt_of_eq (own_Al_lt Al106_120) hb123.symm)
        have ne123_ad109_ob : ad109 ≠ ob := Nat.ne_of_lt (Nat.lt_of_lt_of_eq (own_Al_lt Al118) hb123.symm)
        have g_ob : n0 ≤ ob := Nat.le_trans Zn119 (Nat.le_of_eq hb123.symm)
        have Zn124 := Nat.le_trans Zn119 E123.1
        have Al106_125 := own_Al_ext E123 Al106_120
        have Al118_125 := own_Al_ext E123 Al118
        have Ffields_ob : Fld Z h123 ob "com/example/kinglet/kinglet/index/Occurrences" "fields" "[I" .null := D123 (Or.inr (hw _ (List.mem_of_getElem? (i := 11) rfl))) (ty := (.array .int)) (by decide)
        have Fpositions_ob : Fld Z h123 ob "com/example/kinglet/kinglet/index/Occurrences" "positions" "[I" .null := D123 (Or.inr (hw _ (List.mem_of_getElem? (i := 13) rfl))) (ty := (.array .int)) (by decide)
        show own_Ends p e below s (own_Q0 Z a1 b1 c1 x1 se h0 n0) room_1.cells room_1.slots (T123.setTop (mkF m 262 #[.val (.int a1), .val (.int b1), .val (.int c1), .val (.int x1), .val (.int se), .val (.int (3 : Int32)), .val (.int f0), .val (.int f1), .val (.int f2), .val (.ref ad97), .val (.ref ad109), .val (.int kk), .val (.int qv), .val (.int (1 : Int32)), .unset] [(.ref ob)]))
        refine own_up (S' := T123.setTop (mkF m 263 #[.val (.int a1), .val (.int b1), .val (.int c1), .val (.int x1), .val (.int se), .val (.int (3 : Int32)), .val (.int f0), .val (.int f1), .val (.int f2), .val (.ref ad97), .val (.ref ad109), .val (.int kk), .val (.int qv), .val (.int (1 : Int32)), .unset] [(.ref ob), (.ref ob)])) (fun t stp => XS.dup X123.here hx rfl (hb hby at_262) rfl rfl stp) ?_
        refine own_up (S' := T123.setTop (mkF m 265 #[.val (.int a1), .val (.int b1), .val (.int c1), .val (.int x1), .val (.int se), .val (.int (3 : Int32)), .val (.int f0), .val (.int f1), .val (.int f2), .val (.ref ad97), .val (.ref ad109), .val (.int kk), .val (.int qv), .val (.int (1 : Int32)), .unset] [(.ref ad97), (.ref ob), (.ref ob)])) (fun t stp => XS.aload X123.here hx rfl (hb hby at_263) rfl rfl stp) ?_
        refine own_up (S' := T123.setTop (mkF m 267 #[.val (.int a1), .val (.int b1), .val (.int c1), .val (.int x1), .val (.int se), .val (.int (3 : Int32)), .val (.int f0), .val (.int f1), .val (.int f2), .val (.ref ad97), .val (.ref ad109), .val (.int kk), .val (.int qv), .val (.int (1 : Int32)), .unset] [(.ref ad109), (.ref ad97), (.ref ob), (.ref ob)])) (fun t stp => XS.aload X123.here hx rfl (hb hby at_265) rfl rfl stp) ?_
        refine own_callI X123 hx hZ rfl hown (hw _ (List.mem_of_getElem? (i := 4) rfl)) (hw _ (List.mem_of_getElem? (i := 5) rfl)) (hw _ (List.mem_of_getElem? (i := 3) rfl)) (hw _ (List.mem_of_getElem? (i := 6) rfl)) (by decide) e123 (rm1 l Z a0 hw [] ob ad97 ad109 h123 n0 Zn124 Ffields_ob Fpositions_ob A123 g_ob) 1 ob [(.ref ad97), (.ref ad109)] [(.ref ob)] (hb hby at_267) (lenOf own_pd0 rfl) (by decide) (by decide) (by decide) (by decide) rfl (by rw [hml]; rfl) rfl (by show 2 * 0 + _ ≤ _; exact Nat.le_of_eq rfl) rfl ?_
        intro T126 L126 r126 X126 q126
        obtain ⟨rfl, M126, K126, G126a_126, G126b_126⟩ := q126
        have N126 := Fr.app Nj121 M126
        have Zn127 := Nat.le_trans Zn124 K126.1
        have Al106_128 := own_Al_keep K126 Al106_125 (ninS ne123_ad97_ob nin0)
        have Al118_128 := own_Al_keep K126 Al118_125 (ninS ne123_ad109_ob nin0)
        have A123_128 := A123.keep K126
        show own_Ends p e below s (own_Q0 Z a1 b1 c1 x1 se h0 n0) room_1.cells room_1.slots (T126.setTop (mkF m 270 #[.val (.int a1), .val (.int b1), .val (.int c1), .val (.int x1), .val (.int se), .val (.int (3 : Int32)), .val (.int f0), .val (.int f1), .val (.int f2), .val (.ref ad97), .val (.ref ad109), .val (.int kk), .val (.int qv), .val (.int (1 : Int32)), .unset] [(.ref ob)]))
        refine own_up (S' := T126.setTop (mkF m 272 #[.val (.int a1), .val (.int b1), .val (.int c1), .val (.int x1), .val (.int se), .val (.int (3 : Int32)), .val (.int f0), .val (.int f1), .val (.int f2), .val (.ref ad97), .val (.ref ad109), .val (.int kk), .val (.int qv), .val (.int (1 : Int32)), .val (.ref ob)] [])) (fun t stp => XS.astore X126.here hx rfl (hb hby at_270) rfl rfl (l' := #[.val (.int a1), .val (.int b1), .val (.int c1), .val (.int x1), .val (.int se), .val (.int (3 : Int32)), .val (.int f0), .val (.int f1), .val (.int f2), .val (.ref ad97), .val (.ref ad109), .val (.int kk), .val (.int qv), .val (.int (1 : Int32)), .val (.ref ob)]) rfl stp) ?_
        refine own_up (S' := T126.setTop (mkF m 274 #[.val (.int a1), .val (.int b1), .val (.int c1), .val (.int x1), .val (.int se), .val (.int (3 : Int32)), .val (.int f0), .val (.int f1), .val (.int f2), .val (.ref ad97), .val (.ref ad109), .val (.int kk), .val (.int qv), .val (.int (1 : Int32)), .val (.ref ob)] [(.ref ob)])) (fun t stp => XS.aload X126.here hx rfl (hb hby at_272) rfl rfl stp) ?_
        refine own_up (S' := T126.setTop (mkF m 276 #[.val (.int a1), .val (.int b1), .val (.int c1), .val (.int x1), .val (.int se), .val (.int (3 : Int32)), .val (.int f0), .val (.int f1), .val (.int f2), .val (.ref ad97), .val (.ref ad109), .val (.int kk), .val (.int qv), .val (.int (1 : Int32)), .val (.ref ob)] [(.int qv), (.ref ob)])) (fun t stp => XS.iload X126.here hx rfl (hb hby at_274) rfl stp) ?_
        refine own_callV X126 hx hZ hown (hw _ (List.mem_of_getElem? (i := 14) rfl)) (hw _ (List.mem_of_getElem? (i := 15) rfl)) (hw _ (List.mem_of_getElem? (i := 17) rfl)) (hw _ (List.mem_of_getElem? (i := 16) rfl)) (hw _ (List.mem_of_getElem? (i := 3) rfl)) (hw _ (List.mem_of_getElem? (i := 18) rfl)) (by decide) rfl (rm13 l Z a0 hw [] ob qv ad97 f0 f1 f2 T126.heap n0 Zn127 G126a_126 Al106_128) 0 A123_128 [(.int qv)] [] (hb hby at_276) (lenOf own_pd1 rfl) (by decide) (by decide) (by decide) (by decide) rfl (by rw [hml]; rfl) rfl (by show 2 * 0 + _ ≤ _; exact Nat.le_of_eq rfl) rfl ?_
        intro T129 L129 r129 X129 q129
        obtain ⟨rfl, M129, e129⟩ := q129
        have N129 := Fr.app N126 M129
        show own_Ends p e below s (own_Q0 Z a1 b1 c1 x1 se h0 n0) room_1.cells room_1.slots (T129.setTop (mkF m 279 #[.val (.int a1), .val (.int b1), .val (.int c1), .val (.int x1), .val (.int se), .val (.int (3 : Int32)), .val (.int f0), .val (.int f1), .val (.int f2), .val (.ref ad97), .val (.ref ad109), .val (.int kk), .val (.int qv), .val (.int (1 : Int32)), .val (.ref ob)] [(.int (if f0 = qv then (1 : Int32) else (if f1 = qv then (1 : Int32) else (if f2 = qv then (1 : Int32) else (0 : Int32)))))]))
        refine own_up (S' := T129.setTop (mkF m 281 #[.val (.int a1), .val (.int b1), .val (.int c1), .val (.int x1), .val (.int se), .val (.int (3 : Int32)), .val (.int f0), .val (.int f1), .val (.int f2), .val (.ref ad97), .val (.ref ad109), .val (.int kk), .val (.int qv), .val (.int (1 : Int32)), .val (.ref ob)] [(.int (1 : Int32)), (.int (if f0 = qv then (1 : Int32) else (if f1 = qv then (1 : Int32) else (if f2 = qv then (1 : Int32) else (0 : Int32)))))])) (fun t stp => XS.iload X129.here hx rfl (hb hby at_279) rfl stp) ?_
        have hc281_130 : (if f0 = qv then (1 : Int32) else (if f1 = qv then (1 : Int32) else (if f2 = qv then (1 : Int32) else (0 : Int32)))) = (1 : Int32) := by simp [hc223_122]
        have ihc281_130 : (if f0 = qv then (1 : Int32) else (if f1 = qv then (1 : Int32) else (if f2 = qv then (1 : Int32) else (0 : Int32)))).toInt = 1 := own_ieq hc281_130
        refine own_up (S' := T129.setTop (mkF m 284 #[.val (.int a1), .val (.int b1), .val (.int c1), .val (.int x1), .val (.int se), .val (.int (3 : Int32)), .val (.int f0), .val (.int f1), .val (.int f2), .val (.ref ad97), .val (.ref ad109), .val (.int kk), .val (.int qv), .val (.int (1 : Int32)), .val (.ref ob)] [])) (fun t stp => XS.icmpNo X129.here hx rfl (hb hby at_281) rfl (XT.ii_ne_f hc281_130) stp) ?_
        refine own_up (S' := T129.setTop (mkF m 285 #[.val (.int a1), .val (.int b1), .val (.int c1), .val (.int x1), .val (.int se), .val (.int (3 : Int32)), .val (.int f0), .val (.int f1), .val (.int f2), .val (.ref ad97), .val (.ref ad109), .val (.int kk), .val (.int qv), .val (.int (1 : Int32)), .val (.ref ob)] [(.int (1 : Int32))])) (fun t stp => XT.iconstV X129.here hx rfl (1 : Int32) (hb hby at_284) rfl stp) ?_
        refine own_up (S' := T129.setTop (mkF m 289 #[.val (.int a1), .val (.int b1), .val (.int c1), .val (.int x1), .val (.int se), .val (.int (3 : Int32)), .val (.int f0), .val (.int f1), .val (.int f2), .val (.ref ad97), .val (.ref ad109), .val (.int kk), .val (.int qv), .val (.int (1 : Int32)), .val (.ref ob)] [(.int (1 : Int32))])) (fun t stp => XS.goto X129.here hx rfl (pc0 := 285) (pc' := 289) rfl (hb hby at_285) (by decide) (by decide) stp) ?_
        refine own_retN X129 hx hlk (t := .boolean) hret (by simp) (z' := (1 : Int32)) rfl (hb hby at_289) (by decide) (by decide) ?_
        show own_Q0 Z a1 b1 c1 x1 se h0 n0 _ T129.heap _
        rw [e129]
        exact ⟨rfl, N129⟩
      · have ihc223_122 : qv.toInt ≠ f0.toInt := own_ine hc223_122
        refine own_up (S' := Tj121.setTop (mkF m 226 #[.val (.int a1), .val (.int b1), .val (.int c1), .val (.int x1), .val (.int se), .val (.int (3 : Int32)), .val (.int f0), .val (.int f1), .val (.int f2), .val (.ref ad97), .val (.ref ad109), .val (.int kk), .val (.int qv), .unset, .unset] [])) (fun t stp => XS.icmpNo Xj121.here hx rfl (hb hby at_223) rfl (XT.ii_eq_f hc223_122) stp) ?_
        refine own_up (S' := Tj121.setTop (mkF m 228 #[.val (.int a1), .val (.int b1), .val (.int c1), .val (.int x1), .val (.int se), .val (.int (3 : Int32)), .val (.int f0), .val (.int f1), .val (.int f2), .val (.ref ad97), .val (.ref ad109), .val (.int kk), .val (.int qv), .unset, .unset] [(.int (3 : Int32))])) (fun t stp => XS.iload Xj121.here hx rfl (hb hby at_226) rfl stp) ?_
        refine own_up (S' := Tj121.setTop (mkF m 229 #[.val (.int a1), .val (.int b1), .val (.int c1), .val (.int x1), .val (.int se), .val (.int (3 : Int32)), .val (.int f0), .val (.int f1), .val (.int f2), .val (.ref ad97), .val (.ref ad109), .val (.int kk), .val (.int qv), .unset, .unset] [(.int (2 : Int32)), (.int (3 : Int32))])) (fun t stp => XT.iconstV Xj121.here hx rfl (2 : Int32) (hb hby at_228) rfl stp) ?_
        have hc229_131 : ¬ ((3 : Int32) < (2 : Int32)) := by decide
        refine own_up (S' := Tj121.setTop (mkF m 232 #[.val (.int a1), .val (.int b1), .val (.int c1), .val (.int x1), .val (.int se), .val (.int (3 : Int32)), .val (.int f0), .val (.int f1), .val (.int f2), .val (.ref ad97), .val (.ref ad109), .val (.int kk), .val (.int qv), .unset, .unset] [])) (fun t stp => XS.icmpNo Xj121.here hx rfl (hb hby at_229) rfl (XT.ii_lt_f hc229_131) stp) ?_
        refine own_up (S' := Tj121.setTop (mkF m 234 #[.val (.int a1), .val (.int b1), .val (.int c1), .val (.int x1), .val (.int se), .val (.int (3 : Int32)), .val (.int f0), .val (.int f1), .val (.int f2), .val (.ref ad97), .val (.ref ad109), .val (.int kk), .val (.int qv), .unset, .unset] [(.int qv)])) (fun t stp => XS.iload Xj121.here hx rfl (hb hby at_232) rfl stp) ?_
        refine own_up (S' := Tj121.setTop (mkF m 236 #[.val (.int a1), .val (.int b1), .val (.int c1), .val (.int x1), .val (.int se), .val (.int (3 : Int32)), .val (.int f0), .val (.int f1), .val (.int f2), .val (.ref ad97), .val (.ref ad109), .val (.int kk), .val (.int qv), .unset, .unset] [(.int f1), (.int qv)])) (fun t stp => XS.iload Xj121.here hx rfl (hb hby at_234) rfl stp) ?_
        by_cases hc236_132 : qv = f1
        · have ihc236_132 : qv.toInt = f1.toInt := own_ieq hc236_132
          refine own_up (S' := Tj121.setTop (mkF m 252 #[.val (.int a1), .val (.int b1), .val (.int c1), .val (.int x1), .val (.int se), .val (.int (3 : Int32)), .val (.int f0), .val (.int f1), .val (.int f2), .val (.ref ad97), .val (.ref ad109), .val (.int kk), .val (.int qv), .unset, .unset] [])) (fun t stp => XS.icmpYes Xj121.here hx rfl (pc0 := 236) (pc' := 252) rfl (hb hby at_236) rfl (XT.ii_eq_t hc236_132) (by decide) (by decide) stp) ?_
          refine own_up (S' := Tj121.setTop (mkF m 253 #[.val (.int a1), .val (.int b1), .val (.int c1), .val (.int x1), .val (.int se), .val (.int (3 : Int32)), .val (.int f0), .val (.int f1), .val (.int f2), .val (.ref ad97), .val (.ref ad109), .val (.int kk), .val (.int qv), .unset, .unset] [(.int (1 : Int32))])) (fun t stp => XT.iconstV Xj121.here hx rfl (1 : Int32) (hb hby at_252) rfl stp) ?_
          refine own_up (S' := Tj121.setTop (mkF m 257 #[.val (.int a1), .val (.int b1), .val (.int c1), .val (.int x1), .val (.int se), .val (.int (3 : Int32)), .val (.int f0), .val (.int f1), .val (.int f2), .val (.ref ad97), .val (.ref ad109), .val (.int kk), .val (.int qv), .unset, .unset] [(.int (1 : Int32))])) (fun t stp => XS.goto Xj121.here hx rfl (pc0 := 253) (pc' := 257) rfl (hb hby at_253) (by decide) (by decide) stp) ?_
          refine own_up (S' := Tj121.setTop (mkF m 259 #[.val (.int a1), .val (.int b1), .val (.int c1), .val (.int x1), .val (.int se), .val (.int (3 : Int32)), .val (.int f0), .val (.int f1), .val (.int f2), .val (.ref ad97), .val (.ref ad109), .val (.int kk), .val (.int qv), .val (.int (1 : Int32)), .unset] [])) (fun t stp => XS.istore Xj121.here hx rfl (hb hby at_257) rfl (l' := #[.val (.int a1), .val (.int b1), .val (.int c1), .val (.int x1), .val (.int se), .val (.int (3 : Int32)), .val (.int f0), .val (.int f1), .val (.int f2), .val (.ref ad97), .val (.ref ad109), .val (.int kk), .val (.int qv), .val (.int (1 : Int32)), .unset]) rfl stp) ?_
          refine own_new Xj121 hx hZ hown (hw _ (List.mem_of_getElem? (i := 1) rfl)) (hw _ (List.mem_of_getElem? (i := 2) rfl)) (hw _ (List.mem_of_getElem? (i := 3) rfl)) ej121 rfl (hb hby at_259) (by decide) (by decide) ?_
          intro T133 h133 ob hb133 X133 e133 E133 A133 D133
          have ne133_ad97_ob : ad97 ≠ ob := Nat.ne_of_lt (Nat.lt_of_lt_of_eq (own_Al_lt Al106_120) hb133.symm)
          have ne133_ad109_ob : ad109 ≠ ob := Nat.ne_of_lt (Nat.lt_of_lt_of_eq (own_Al_lt Al118) hb133.symm)
          have g_ob : n0 ≤ ob := Nat.le_trans Zn119 (Nat.le_of_eq hb133.symm)
          have Zn134 := Nat.le_trans Zn119 E133.1
          have Al106_135 := own_Al_ext E133 Al106_120
          have Al118_135 := own_Al_ext E133 Al118
          have Ffields_ob : Fld Z h133 ob "com/example/kinglet/kinglet/index/Occurrences" "fields" "[I" .null := D133 (Or.inr (hw _ (List.mem_of_getElem? (i := 11) rfl))) (ty := (.array .int)) (by decide)
          have Fpositions_ob : Fld Z h133 ob "com/example/kinglet/kinglet/index/Occurrences" "positions" "[I" .null := D133 (Or.inr (hw _ (List.mem_of_getElem? (i := 13) rfl))) (ty := (.array .int)) (by decide)
          show own_Ends p e below s (own_Q0 Z a1 b1 c1 x1 se h0 n0) room_1.cells room_1.slots (T133.setTop (mkF m 262 #[.val (.int a1), .val (.int b1), .val (.int c1), .val (.int x1), .val (.int se), .val (.int (3 : Int32)), .val (.int f0), .val (.int f1), .val (.int f2), .val (.ref ad97), .val (.ref ad109), .val (.int kk), .val (.int qv), .val (.int (1 : Int32)), .unset] [(.ref ob)]))
          refine own_up (S' := T133.setTop (mkF m 263 #[.val (.int a1), .val (.int b1), .val (.int c1), .val (.int x1), .val (.int se), .val (.int (3 : Int32)), .val (.int f0), .val (.int f1), .val (.int f2), .val (.ref ad97), .val (.ref ad109), .val (.int kk), .val (.int qv), .val (.int (1 : Int32)), .unset] [(.ref ob), (.ref ob)])) (fun t stp => XS.dup X133.here hx rfl (hb hby at_262) rfl rfl stp) ?_
          refine own_up (S' := T133.setTop (mkF m 265 #[.val (.int a1), .val (.int b1), .val (.int c1), .val (.int x1), .val (.int se), .val (.int (3 : Int32)), .val (.int f0), .val (.int f1), .val (.int f2), .val (.ref ad97), .val (.ref ad109), .val (.int kk), .val (.int qv), .val (.int (1 : Int32)), .unset] [(.ref ad97), (.ref ob), (.ref ob)])) (fun t stp => XS.aload X133.here hx rfl (hb hby at_263) rfl rfl stp) ?_
          refine own_up (S' := T133.setTop (mkF m 267 #[.val (.int a1), .val (.int b1), .val (.int c1), .val (.int x1), .val (.int se), .val (.int (3 : Int32)), .val (.int f0), .val (.int f1), .val (.int f2), .val (.ref ad97), .val (.ref ad109), .val (.int kk), .val (.int qv), .val (.int (1 : Int32)), .unset] [(.ref ad109), (.ref ad97), (.ref ob), (.ref ob)])) (fun t stp => XS.aload X133.here hx rfl (hb hby at_265) rfl rfl stp) ?_
          refine own_callI X133 hx hZ rfl hown (hw _ (List.mem_of_getElem? (i := 4) rfl)) (hw _ (List.mem_of_getElem? (i := 5) rfl)) (hw _ (List.mem_of_getElem? (i := 3) rfl)) (hw _ (List.mem_of_getElem? (i := 6) rfl)) (by decide) e133 (rm1 l Z a0 hw [] ob ad97 ad109 h133 n0 Zn134 Ffields_ob Fpositions_ob A133 g_ob) 1 ob [(.ref ad97), (.ref ad109)] [(.ref ob)] (hb hby at_267) (lenOf own_pd0 rfl) (by decide) (by decide) (by decide) (by decide) rfl (by rw [hml]; rfl) rfl (by show 2 * 0 + _ ≤ _; exact Nat.le_of_eq rfl) rfl ?_
          intro T136 L136 r136 X136 q136
          obtain ⟨rfl, M136, K136, G136a_136, G136b_136⟩ := q136
          have N136 := Fr.app Nj121 M136
          have Zn137 := Nat.le_trans Zn134 K136.1
          have Al106_138 := own_Al_keep K136 Al106_135 (ninS ne133_ad97_ob nin0)
          have Al118_138 := own_Al_keep K136 Al118_135 (ninS ne133_ad109_ob nin0)
          have A133_138 := A133.keep K136
          show own_Ends p e below s (own_Q0 Z a1 b1 c1 x1 se h0 n0) room_1.cells room_1.slots (T136.setTop (mkF m 270 #[.val (.int a1), .val (.int b1), .val (.int c1), .val (.int x1), .val (.int se), .val (.int (3 : Int32)), .val (.int f0), .val (.int f1), .val (.int f2), .val (.ref ad97), .val (.ref ad109), .val (.int kk), .val (.int qv), .val (.int (1 : Int32)), .unset] [(.ref ob)]))
          refine own_up (S' := T136.setTop (mkF m 272 #[.val (.int a1), .val (.int b1), .val (.int c1), .val (.int x1), .val (.int se), .val (.int (3 : Int32)), .val (.int f0), .val (.int f1), .val (.int f2), .val (.ref ad97), .val (.ref ad109), .val (.int kk), .val (.int qv), .val (.int (1 : Int32)), .val (.ref ob)] [])) (fun t stp => XS.astore X136.here hx rfl (hb hby at_270) rfl rfl (l' := #[.val (.int a1), .val (.int b1), .val (.int c1), .val (.int x1), .val (.int se), .val (.int (3 : Int32)), .val (.int f0), .val (.int f1), .val (.int f2), .val (.ref ad97), .val (.ref ad109), .val (.int kk), .val (.int qv), .val (.int (1 : Int32)), .val (.ref ob)]) rfl stp) ?_
          refine own_up (S' := T136.setTop (mkF m 274 #[.val (.int a1), .val (.int b1), .val (.int c1), .val (.int x1), .val (.int se), .val (.int (3 : Int32)), .val (.int f0), .val (.int f1), .val (.int f2), .val (.ref ad97), .val (.ref ad109), .val (.int kk), .val (.int qv), .val (.int (1 : Int32)), .val (.ref ob)] [(.ref ob)])) (fun t stp => XS.aload X136.here hx rfl (hb hby at_272) rfl rfl stp) ?_
          refine own_up (S' := T136.setTop (mkF m 276 #[.val (.int a1), .val (.int b1), .val (.int c1), .val (.int x1), .val (.int se), .val (.int (3 : Int32)), .val (.int f0), .val (.int f1), .val (.int f2), .val (.ref ad97), .val (.ref ad109), .val (.int kk), .val (.int qv), .val (.int (1 : Int32)), .val (.ref ob)] [(.int qv), (.ref ob)])) (fun t stp => XS.iload X136.here hx rfl (hb hby at_274) rfl stp) ?_
          refine own_callV X136 hx hZ hown (hw _ (List.mem_of_getElem? (i := 14) rfl)) (hw _ (List.mem_of_getElem? (i := 15) rfl)) (hw _ (List.mem_of_getElem? (i := 17) rfl)) (hw _ (List.mem_of_getElem? (i := 16) rfl)) (hw _ (List.mem_of_getElem? (i := 3) rfl)) (hw _ (List.mem_of_getElem? (i := 18) rfl)) (by decide) rfl (rm13 l Z a0 hw [] ob qv ad97 f0 f1 f2 T136.heap n0 Zn137 G136a_136 Al106_138) 0 A133_138 [(.int qv)] [] (hb hby at_276) (lenOf own_pd1 rfl) (by decide) (by decide) (by decide) (by decide) rfl (by rw [hml]; rfl) rfl (by show 2 * 0 + _ ≤ _; exact Nat.le_of_eq rfl) rfl ?_
          intro T139 L139 r139 X139 q139
          obtain ⟨rfl, M139, e139⟩ := q139
          have N139 := Fr.app N136 M139
          show own_Ends p e below s (own_Q0 Z a1 b1 c1 x1 se h0 n0) room_1.cells room_1.slots (T139.setTop (mkF m 279 #[.val (.int a1), .val (.int b1), .val (.int c1), .val (.int x1), .val (.int se), .val (.int (3 : Int32)), .val (.int f0), .val (.int f1), .val (.int f2), .val (.ref ad97), .val (.ref ad109), .val (.int kk), .val (.int qv), .val (.int (1 : Int32)), .val (.ref ob)] [(.int (if f0 = qv then (1 : Int32) else (if f1 = qv then (1 : Int32) else (if f2 = qv then (1 : Int32) else (0 : Int32)))))]))
          refine own_up (S' := T139.setTop (mkF m 281 #[.val (.int a1), .val (.int b1), .val (.int c1), .val (.int x1), .val (.int se), .val (.int (3 : Int32)), .val (.int f0), .val (.int f1), .val (.int f2), .val (.ref ad97), .val (.ref ad109), .val (.int kk), .val (.int qv), .val (.int (1 : Int32)), .val (.ref ob)] [(.int (1 : Int32)), (.int (if f0 = qv then (1 : Int32) else (if f1 = qv then (1 : Int32) else (if f2 = qv then (1 : Int32) else (0 : Int32)))))])) (fun t stp => XS.iload X139.here hx rfl (hb hby at_279) rfl stp) ?_
          have hc281_140 : (if f0 = qv then (1 : Int32) else (if f1 = qv then (1 : Int32) else (if f2 = qv then (1 : Int32) else (0 : Int32)))) = (1 : Int32) := by simp [Ne.symm hc223_122, hc236_132]
          have ihc281_140 : (if f0 = qv then (1 : Int32) else (if f1 = qv then (1 : Int32) else (if f2 = qv then (1 : Int32) else (0 : Int32)))).toInt = 1 := own_ieq hc281_140
          refine own_up (S' := T139.setTop (mkF m 284 #[.val (.int a1), .val (.int b1), .val (.int c1), .val (.int x1), .val (.int se), .val (.int (3 : Int32)), .val (.int f0), .val (.int f1), .val (.int f2), .val (.ref ad97), .val (.ref ad109), .val (.int kk), .val (.int qv), .val (.int (1 : Int32)), .val (.ref ob)] [])) (fun t stp => XS.icmpNo X139.here hx rfl (hb hby at_281) rfl (XT.ii_ne_f hc281_140) stp) ?_
          refine own_up (S' := T139.setTop (mkF m 285 #[.val (.int a1), .val (.int b1), .val (.int c1), .val (.int x1), .val (.int se), .val (.int (3 : Int32)), .val (.int f0), .val (.int f1), .val (.int f2), .val (.ref ad97), .val (.ref ad109), .val (.int kk), .val (.int qv), .val (.int (1 : Int32)), .val (.ref ob)] [(.int (1 : Int32))])) (fun t stp => XT.iconstV X139.here hx rfl (1 : Int32) (hb hby at_284) rfl stp) ?_
          refine own_up (S' := T139.setTop (mkF m 289 #[.val (.int a1), .val (.int b1), .val (.int c1), .val (.int x1), .val (.int se), .val (.int (3 : Int32)), .val (.int f0), .val (.int f1), .val (.int f2), .val (.ref ad97), .val (.ref ad109), .val (.int kk), .val (.int qv), .val (.int (1 : Int32)), .val (.ref ob)] [(.int (1 : Int32))])) (fun t stp => XS.goto X139.here hx rfl (pc0 := 285) (pc' := 289) rfl (hb hby at_285) (by decide) (by decide) stp) ?_
          refine own_retN X139 hx hlk (t := .boolean) hret (by simp) (z' := (1 : Int32)) rfl (hb hby at_289) (by decide) (by decide) ?_
          show own_Q0 Z a1 b1 c1 x1 se h0 n0 _ T139.heap _
          rw [e139]
          exact ⟨rfl, N139⟩
        · have ihc236_132 : qv.toInt ≠ f1.toInt := own_ine hc236_132
          refine own_up (S' := Tj121.setTop (mkF m 239 #[.val (.int a1), .val (.int b1), .val (.int c1), .val (.int x1), .val (.int se), .val (.int (3 : Int32)), .val (.int f0), .val (.int f1), .val (.int f2), .val (.ref ad97), .val (.ref ad109), .val (.int kk), .val (.int qv), .unset, .unset] [])) (fun t stp => XS.icmpNo Xj121.here hx rfl (hb hby at_236) rfl (XT.ii_eq_f hc236_132) stp) ?_
          refine own_up (S' := Tj121.setTop (mkF m 241 #[.val (.int a1), .val (.int b1), .val (.int c1), .val (.int x1), .val (.int se), .val (.int (3 : Int32)), .val (.int f0), .val (.int f1), .val (.int f2), .val (.ref ad97), .val (.ref ad109), .val (.int kk), .val (.int qv), .unset, .unset] [(.int (3 : Int32))])) (fun t stp => XS.iload Xj121.here hx rfl (hb hby at_239) rfl stp) ?_
          refine own_up (S' := Tj121.setTop (mkF m 242 #[.val (.int a1), .val (.int b1), .val (.int c1), .val (.int x1), .val (.int se), .val (.int (3 : Int32)), .val (.int f0), .val (.int f1), .val (.int f2), .val (.ref ad97), .val (.ref ad109), .val (.int kk), .val (.int qv), .unset, .unset] [(.int (3 : Int32)), (.int (3 : Int32))])) (fun t stp => XT.iconstV Xj121.here hx rfl (3 : Int32) (hb hby at_241) rfl stp) ?_
          have hc242_141 : ¬ ((3 : Int32) < (3 : Int32)) := by decide
          refine own_up (S' := Tj121.setTop (mkF m 245 #[.val (.int a1), .val (.int b1), .val (.int c1), .val (.int x1), .val (.int se), .val (.int (3 : Int32)), .val (.int f0), .val (.int f1), .val (.int f2), .val (.ref ad97), .val (.ref ad109), .val (.int kk), .val (.int qv), .unset, .unset] [])) (fun t stp => XS.icmpNo Xj121.here hx rfl (hb hby at_242) rfl (XT.ii_lt_f hc242_141) stp) ?_
          refine own_up (S' := Tj121.setTop (mkF m 247 #[.val (.int a1), .val (.int b1), .val (.int c1), .val (.int x1), .val (.int se), .val (.int (3 : Int32)), .val (.int f0), .val (.int f1), .val (.int f2), .val (.ref ad97), .val (.ref ad109), .val (.int kk), .val (.int qv), .unset, .unset] [(.int qv)])) (fun t stp => XS.iload Xj121.here hx rfl (hb hby at_245) rfl stp) ?_
          refine own_up (S' := Tj121.setTop (mkF m 249 #[.val (.int a1), .val (.int b1), .val (.int c1), .val (.int x1), .val (.int se), .val (.int (3 : Int32)), .val (.int f0), .val (.int f1), .val (.int f2), .val (.ref ad97), .val (.ref ad109), .val (.int kk), .val (.int qv), .unset, .unset] [(.int f2), (.int qv)])) (fun t stp => XS.iload Xj121.here hx rfl (hb hby at_247) rfl stp) ?_
          by_cases hc249_142 : qv = f2
          · have ihc249_142 : qv.toInt = f2.toInt := own_ieq hc249_142
            refine own_up (S' := Tj121.setTop (mkF m 252 #[.val (.int a1), .val (.int b1), .val (.int c1), .val (.int x1), .val (.int se), .val (.int (3 : Int32)), .val (.int f0), .val (.int f1), .val (.int f2), .val (.ref ad97), .val (.ref ad109), .val (.int kk), .val (.int qv), .unset, .unset] [])) (fun t stp => XS.icmpNo Xj121.here hx rfl (hb hby at_249) rfl (XT.ii_ne_f hc249_142) stp) ?_
            refine own_up (S' := Tj121.setTop (mkF m 253 #[.val (.int a1), .val (.int b1), .val (.int c1), .val (.int x1), .val (.int se), .val (.int (3 : Int32)), .val (.int f0), .val (.int f1), .val (.int f2), .val (.ref ad97), .val (.ref ad109), .val (.int kk), .val (.int qv), .unset, .unset] [(.int (1 : Int32))])) (fun t stp => XT.iconstV Xj121.here hx rfl (1 : Int32) (hb hby at_252) rfl stp) ?_
            refine own_up (S' := Tj121.setTop (mkF m 257 #[.val (.int a1), .val (.int b1), .val (.int c1), .val (.int x1), .val (.int se), .val (.int (3 : Int32)), .val (.int f0), .val (.int f1), .val (.int f2), .val (.ref ad97), .val (.ref ad109), .val (.int kk), .val (.int qv), .unset, .unset] [(.int (1 : Int32))])) (fun t stp => XS.goto Xj121.here hx rfl (pc0 := 253) (pc' := 257) rfl (hb hby at_253) (by decide) (by decide) stp) ?_
            refine own_up (S' := Tj121.setTop (mkF m 259 #[.val (.int a1), .val (.int b1), .val (.int c1), .val (.int x1), .val (.int se), .val (.int (3 : Int32)), .val (.int f0), .val (.int f1), .val (.int f2), .val (.ref ad97), .val (.ref ad109), .val (.int kk), .val (.int qv), .val (.int (1 : Int32)), .unset] [])) (fun t stp => XS.istore Xj121.here hx rfl (hb hby at_257) rfl (l' := #[.val (.int a1), .val (.int b1), .val (.int c1), .val (.int x1), .val (.int se), .val (.int (3 : Int32)), .val (.int f0), .val (.int f1), .val (.int f2), .val (.ref ad97), .val (.ref ad109), .val (.int kk), .val (.int qv), .val (.int (1 : Int32)), .unset]) rfl stp) ?_
            refine own_new Xj121 hx hZ hown (hw _ (List.mem_of_getElem? (i := 1) rfl)) (hw _ (List.mem_of_getElem? (i := 2) rfl)) (hw _ (List.mem_of_getElem? (i := 3) rfl)) ej121 rfl (hb hby at_259) (by decide) (by decide) ?_
            intro T143 h143 ob hb143 X143 e143 E143 A143 D143
            have ne143_ad97_ob : ad97 ≠ ob := Nat.ne_of_lt (Nat.lt_of_lt_of_eq (own_Al_lt Al106_120) hb143.symm)
            have ne143_ad109_ob : ad109 ≠ ob := Nat.ne_of_lt (Nat.lt_of_lt_of_eq (own_Al_lt Al118) hb143.symm)
            have g_ob : n0 ≤ ob := Nat.le_trans Zn119 (Nat.le_of_eq hb143.symm)
            have Zn144 := Nat.le_trans Zn119 E143.1
            have Al106_145 := own_Al_ext E143 Al106_120
            have Al118_145 := own_Al_ext E143 Al118
            have Ffields_ob : Fld Z h143 ob "com/example/kinglet/kinglet/index/Occurrences" "fields" "[I" .null := D143 (Or.inr (hw _ (List.mem_of_getElem? (i := 11) rfl))) (ty := (.array .int)) (by decide)
            have Fpositions_ob : Fld Z h143 ob "com/example/kinglet/kinglet/index/Occurrences" "positions" "[I" .null := D143 (Or.inr (hw _ (List.mem_of_getElem? (i := 13) rfl))) (ty := (.array .int)) (by decide)
            show own_Ends p e below s (own_Q0 Z a1 b1 c1 x1 se h0 n0) room_1.cells room_1.slots (T143.setTop (mkF m 262 #[.val (.int a1), .val (.int b1), .val (.int c1), .val (.int x1), .val (.int se), .val (.int (3 : Int32)), .val (.int f0), .val (.int f1), .val (.int f2), .val (.ref ad97), .val (.ref ad109), .val (.int kk), .val (.int qv), .val (.int (1 : Int32)), .unset] [(.ref ob)]))
            refine own_up (S' := T143.setTop (mkF m 263 #[.val (.int a1), .val (.int b1), .val (.int c1), .val (.int x1), .val (.int se), .val (.int (3 : Int32)), .val (.int f0), .val (.int f1), .val (.int f2), .val (.ref ad97), .val (.ref ad109), .val (.int kk), .val (.int qv), .val (.int (1 : Int32)), .unset] [(.ref ob), (.ref ob)])) (fun t stp => XS.dup X143.here hx rfl (hb hby at_262) rfl rfl stp) ?_
            refine own_up (S' := T143.setTop (mkF m 265 #[.val (.int a1), .val (.int b1), .val (.int c1), .val (.int x1), .val (.int se), .val (.int (3 : Int32)), .val (.int f0), .val (.int f1), .val (.int f2), .val (.ref ad97), .val (.ref ad109), .val (.int kk), .val (.int qv), .val (.int (1 : Int32)), .unset] [(.ref ad97), (.ref ob), (.ref ob)])) (fun t stp => XS.aload X143.here hx rfl (hb hby at_263) rfl rfl stp) ?_
            refine own_up (S' := T143.setTop (mkF m 267 #[.val (.int a1), .val (.int b1), .val (.int c1), .val (.int x1), .val (.int se), .val (.int (3 : Int32)), .val (.int f0), .val (.int f1), .val (.int f2), .val (.ref ad97), .val (.ref ad109), .val (.int kk), .val (.int qv), .val (.int (1 : Int32)), .unset] [(.ref ad109), (.ref ad97), (.ref ob), (.ref ob)])) (fun t stp => XS.aload X143.here hx rfl (hb hby at_265) rfl rfl stp) ?_
            refine own_callI X143 hx hZ rfl hown (hw _ (List.mem_of_getElem? (i := 4) rfl)) (hw _ (List.mem_of_getElem? (i := 5) rfl)) (hw _ (List.mem_of_getElem? (i := 3) rfl)) (hw _ (List.mem_of_getElem? (i := 6) rfl)) (by decide) e143 (rm1 l Z a0 hw [] ob ad97 ad109 h143 n0 Zn144 Ffields_ob Fpositions_ob A143 g_ob) 1 ob [(.ref ad97), (.ref ad109)] [(.ref ob)] (hb hby at_267) (lenOf own_pd0 rfl) (by decide) (by decide) (by decide) (by decide) rfl (by rw [hml]; rfl) rfl (by show 2 * 0 + _ ≤ _; exact Nat.le_of_eq rfl) rfl ?_
            intro T146 L146 r146 X146 q146
            obtain ⟨rfl, M146, K146, G146a_146, G146b_146⟩ := q146
            have N146 := Fr.app Nj121 M146
            have Zn147 := Nat.le_trans Zn144 K146.1
            have Al106_148 := own_Al_keep K146 Al106_145 (ninS ne143_ad97_ob nin0)
            have Al118_148 := own_Al_keep K146 Al118_145 (ninS ne143_ad109_ob nin0)
            have A143_148 := A143.keep K146
            show own_Ends p e below s (own_Q0 Z a1 b1 c1 x1 se h0 n0) room_1.cells room_1.slots (T146.setTop (mkF m 270 #[.val (.int a1), .val (.int b1), .val (.int c1), .val (.int x1), .val (.int se), .val (.int (3 : Int32)), .val (.int f0), .val (.int f1), .val (.int f2), .val (.ref ad97), .val (.ref ad109), .val (.int kk), .val (.int qv), .val (.int (1 : Int32)), .unset] [(.ref ob)]))
            refine own_up (S' := T146.setTop (mkF m 272 #[.val (.int a1), .val (.int b1), .val (.int c1), .val (.int x1), .val (.int se), .val (.int (3 : Int32)), .val (.int f0), .val (.int f1), .val (.int f2), .val (.ref ad97), .val (.ref ad109), .val (.int kk), .val (.int qv), .val (.int (1 : Int32)), .val (.ref ob)] [])) (fun t stp => XS.astore X146.here hx rfl (hb hby at_270) rfl rfl (l' := #[.val (.int a1), .val (.int b1), .val (.int c1), .val (.int x1), .val (.int se), .val (.int (3 : Int32)), .val (.int f0), .val (.int f1), .val (.int f2), .val (.ref ad97), .val (.ref ad109), .val (.int kk), .val (.int qv), .val (.int (1 : Int32)), .val (.ref ob)]) rfl stp) ?_
            refine own_up (S' := T146.setTop (mkF m 274 #[.val (.int a1), .val (.int b1), .val (.int c1), .val (.int x1), .val (.int se), .val (.int (3 : Int32)), .val (.int f0), .val (.int f1), .val (.int f2), .val (.ref ad97), .val (.ref ad109), .val (.int kk), .val (.int qv), .val (.int (1 : Int32)), .val (.ref ob)] [(.ref ob)])) (fun t stp => XS.aload X146.here hx rfl (hb hby at_272) rfl rfl stp) ?_
            refine own_up (S' := T146.setTop (mkF m 276 #[.val (.int a1), .val (.int b1), .val (.int c1), .val (.int x1), .val (.int se), .val (.int (3 : Int32)), .val (.int f0), .val (.int f1), .val (.int f2), .val (.ref ad97), .val (.ref ad109), .val (.int kk), .val (.int qv), .val (.int (1 : Int32)), .val (.ref ob)] [(.int qv), (.ref ob)])) (fun t stp => XS.iload X146.here hx rfl (hb hby at_274) rfl stp) ?_
            refine own_callV X146 hx hZ hown (hw _ (List.mem_of_getElem? (i := 14) rfl)) (hw _ (List.mem_of_getElem? (i := 15) rfl)) (hw _ (List.mem_of_getElem? (i := 17) rfl)) (hw _ (List.mem_of_getElem? (i := 16) rfl)) (hw _ (List.mem_of_getElem? (i := 3) rfl)) (hw _ (List.mem_of_getElem? (i := 18) rfl)) (by decide) rfl (rm13 l Z a0 hw [] ob qv ad97 f0 f1 f2 T146.heap n0 Zn147 G146a_146 Al106_148) 0 A143_148 [(.int qv)] [] (hb hby at_276) (lenOf own_pd1 rfl) (by decide) (by decide) (by decide) (by decide) rfl (by rw [hml]; rfl) rfl (by show 2 * 0 + _ ≤ _; exact Nat.le_of_eq rfl) rfl ?_
            intro T149 L149 r149 X149 q149
            obtain ⟨rfl, M149, e149⟩ := q149
            have N149 := Fr.app N146 M149
            show own_Ends p e below s (own_Q0 Z a1 b1 c1 x1 se h0 n0) room_1.cells room_1.slots (T149.setTop (mkF m 279 #[.val (.int a1), .val (.int b1), .val (.int c1), .val (.int x1), .val (.int se), .val (.int (3 : Int32)), .val (.int f0), .val (.int f1), .val (.int f2), .val (.ref ad97), .val (.ref ad109), .val (.int kk), .val (.int qv), .val (.int (1 : Int32)), .val (.ref ob)] [(.int (if f0 = qv then (1 : Int32) else (if f1 = qv then (1 : Int32) else (if f2 = qv then (1 : Int32) else (0 : Int32)))))]))
            refine own_up (S' := T149.setTop (mkF m 281 #[.val (.int a1), .val (.int b1), .val (.int c1), .val (.int x1), .val (.int se), .val (.int (3 : Int32)), .val (.int f0), .val (.int f1), .val (.int f2), .val (.ref ad97), .val (.ref ad109), .val (.int kk), .val (.int qv), .val (.int (1 : Int32)), .val (.ref ob)] [(.int (1 : Int32)), (.int (if f0 = qv then (1 : Int32) else (if f1 = qv then (1 : Int32) else (if f2 = qv then (1 : Int32) else (0 : Int32)))))])) (fun t stp => XS.iload X149.here hx rfl (hb hby at_279) rfl stp) ?_
            have hc281_150 : (if f0 = qv then (1 : Int32) else (if f1 = qv then (1 : Int32) else (if f2 = qv then (1 : Int32) else (0 : Int32)))) = (1 : Int32) := by simp [Ne.symm hc223_122, Ne.symm hc236_132, hc249_142]
            have ihc281_150 : (if f0 = qv then (1 : Int32) else (if f1 = qv then (1 : Int32) else (if f2 = qv then (1 : Int32) else (0 : Int32)))).toInt = 1 := own_ieq hc281_150
            refine own_up (S' := T149.setTop (mkF m 284 #[.val (.int a1), .val (.int b1), .val (.int c1), .val (.int x1), .val (.int se), .val (.int (3 : Int32)), .val (.int f0), .val (.int f1), .val (.int f2), .val (.ref ad97), .val (.ref ad109), .val (.int kk), .val (.int qv), .val (.int (1 : Int32)), .val (.ref ob)] [])) (fun t stp => XS.icmpNo X149.here hx rfl (hb hby at_281) rfl (XT.ii_ne_f hc281_150) stp) ?_
            refine own_up (S' := T149.setTop (mkF m 285 #[.val (.int a1), .val (.int b1), .val (.int c1), .val (.int x1), .val (.int se), .val (.int (3 : Int32)), .val (.int f0), .val (.int f1), .val (.int f2), .val (.ref ad97), .val (.ref ad109), .val (.int kk), .val (.int qv), .val (.int (1 : Int32)), .val (.ref ob)] [(.int (1 : Int32))])) (fun t stp => XT.iconstV X149.here hx rfl (1 : Int32) (hb hby at_284) rfl stp) ?_
            refine own_up (S' := T149.setTop (mkF m 289 #[.val (.int a1), .val (.int b1), .val (.int c1), .val (.int x1), .val (.int se), .val (.int (3 : Int32)), .val (.int f0), .val (.int f1), .val (.int f2), .val (.ref ad97), .val (.ref ad109), .val (.int kk), .val (.int qv), .val (.int (1 : Int32)), .val (.ref ob)] [(.int (1 : Int32))])) (fun t stp => XS.goto X149.here hx rfl (pc0 := 285) (pc' := 289) rfl (hb hby at_285) (by decide) (by decide) stp) ?_
            refine own_retN X149 hx hlk (t := .boolean) hret (by simp) (z' := (1 : Int32)) rfl (hb hby at_289) (by decide) (by decide) ?_
            show own_Q0 Z a1 b1 c1 x1 se h0 n0 _ T149.heap _
            rw [e149]
            exact ⟨rfl, N149⟩
          · have ihc249_142 : qv.toInt ≠ f2.toInt := own_ine hc249_142
            refine own_up (S' := Tj121.setTop (mkF m 256 #[.val (.int a1), .val (.int b1), .val (.int c1), .val (.int x1), .val (.int se), .val (.int (3 : Int32)), .val (.int f0), .val (.int f1), .val (.int f2), .val (.ref ad97), .val (.ref ad109), .val (.int kk), .val (.int qv), .unset, .unset] [])) (fun t stp => XS.icmpYes Xj121.here hx rfl (pc0 := 249) (pc' := 256) rfl (hb hby at_249) rfl (XT.ii_ne_t hc249_142) (by decide) (by decide) stp) ?_
            refine own_up (S' := Tj121.setTop (mkF m 257 #[.val (.int a1), .val (.int b1), .val (.int c1), .val (.int x1), .val (.int se), .val (.int (3 : Int32)), .val (.int f0), .val (.int f1), .val (.int f2), .val (.ref ad97), .val (.ref ad109), .val (.int kk), .val (.int qv), .unset, .unset] [(.int (0 : Int32))])) (fun t stp => XT.iconstV Xj121.here hx rfl (0 : Int32) (hb hby at_256) rfl stp) ?_
            refine own_up (S' := Tj121.setTop (mkF m 259 #[.val (.int a1), .val (.int b1), .val (.int c1), .val (.int x1), .val (.int se), .val (.int (3 : Int32)), .val (.int f0), .val (.int f1), .val (.int f2), .val (.ref ad97), .val (.ref ad109), .val (.int kk), .val (.int qv), .val (.int (0 : Int32)), .unset] [])) (fun t stp => XS.istore Xj121.here hx rfl (hb hby at_257) rfl (l' := #[.val (.int a1), .val (.int b1), .val (.int c1), .val (.int x1), .val (.int se), .val (.int (3 : Int32)), .val (.int f0), .val (.int f1), .val (.int f2), .val (.ref ad97), .val (.ref ad109), .val (.int kk), .val (.int qv), .val (.int (0 : Int32)), .unset]) rfl stp) ?_
            refine own_new Xj121 hx hZ hown (hw _ (List.mem_of_getElem? (i := 1) rfl)) (hw _ (List.mem_of_getElem? (i := 2) rfl)) (hw _ (List.mem_of_getElem? (i := 3) rfl)) ej121 rfl (hb hby at_259) (by decide) (by decide) ?_
            intro T151 h151 ob hb151 X151 e151 E151 A151 D151
            have ne151_ad97_ob : ad97 ≠ ob := Nat.ne_of_lt (Nat.lt_of_lt_of_eq (own_Al_lt Al106_120) hb151.symm)
            have ne151_ad109_ob : ad109 ≠ ob := Nat.ne_of_lt (Nat.lt_of_lt_of_eq (own_Al_lt Al118) hb151.symm)
            have g_ob : n0 ≤ ob := Nat.le_trans Zn119 (Nat.le_of_eq hb151.symm)
            have Zn152 := Nat.le_trans Zn119 E151.1
            have Al106_153 := own_Al_ext E151 Al106_120
            have Al118_153 := own_Al_ext E151 Al118
            have Ffields_ob : Fld Z h151 ob "com/example/kinglet/kinglet/index/Occurrences" "fields" "[I" .null := D151 (Or.inr (hw _ (List.mem_of_getElem? (i := 11) rfl))) (ty := (.array .int)) (by decide)
            have Fpositions_ob : Fld Z h151 ob "com/example/kinglet/kinglet/index/Occurrences" "positions" "[I" .null := D151 (Or.inr (hw _ (List.mem_of_getElem? (i := 13) rfl))) (ty := (.array .int)) (by decide)
            show own_Ends p e below s (own_Q0 Z a1 b1 c1 x1 se h0 n0) room_1.cells room_1.slots (T151.setTop (mkF m 262 #[.val (.int a1), .val (.int b1), .val (.int c1), .val (.int x1), .val (.int se), .val (.int (3 : Int32)), .val (.int f0), .val (.int f1), .val (.int f2), .val (.ref ad97), .val (.ref ad109), .val (.int kk), .val (.int qv), .val (.int (0 : Int32)), .unset] [(.ref ob)]))
            refine own_up (S' := T151.setTop (mkF m 263 #[.val (.int a1), .val (.int b1), .val (.int c1), .val (.int x1), .val (.int se), .val (.int (3 : Int32)), .val (.int f0), .val (.int f1), .val (.int f2), .val (.ref ad97), .val (.ref ad109), .val (.int kk), .val (.int qv), .val (.int (0 : Int32)), .unset] [(.ref ob), (.ref ob)])) (fun t stp => XS.dup X151.here hx rfl (hb hby at_262) rfl rfl stp) ?_
            refine own_up (S' := T151.setTop (mkF m 265 #[.val (.int a1), .val (.int b1), .val (.int c1), .val (.int x1), .val (.int se), .val (.int (3 : Int32)), .val (.int f0), .val (.int f1), .val (.int f2), .val (.ref ad97), .val (.ref ad109), .val (.int kk), .val (.int qv), .val (.int (0 : Int32)), .unset] [(.ref ad97), (.ref ob), (.ref ob)])) (fun t stp => XS.aload X151.here hx rfl (hb hby at_263) rfl rfl stp) ?_
            refine own_up (S' := T151.setTop (mkF m 267 #[.val (.int a1), .val (.int b1), .val (.int c1), .val (.int x1), .val (.int se), .val (.int (3 : Int32)), .val (.int f0), .val (.int f1), .val (.int f2), .val (.ref ad97), .val (.ref ad109), .val (.int kk), .val (.int qv), .val (.int (0 : Int32)), .unset] [(.ref ad109), (.ref ad97), (.ref ob), (.ref ob)])) (fun t stp => XS.aload X151.here hx rfl (hb hby at_265) rfl rfl stp) ?_
            refine own_callI X151 hx hZ rfl hown (hw _ (List.mem_of_getElem? (i := 4) rfl)) (hw _ (List.mem_of_getElem? (i := 5) rfl)) (hw _ (List.mem_of_getElem? (i := 3) rfl)) (hw _ (List.mem_of_getElem? (i := 6) rfl)) (by decide) e151 (rm1 l Z a0 hw [] ob ad97 ad109 h151 n0 Zn152 Ffields_ob Fpositions_ob A151 g_ob) 1 ob [(.ref ad97), (.ref ad109)] [(.ref ob)] (hb hby at_267) (lenOf own_pd0 rfl) (by decide) (by decide) (by decide) (by decide) rfl (by rw [hml]; rfl) rfl (by show 2 * 0 + _ ≤ _; exact Nat.le_of_eq rfl) rfl ?_
            intro T154 L154 r154 X154 q154
            obtain ⟨rfl, M154, K154, G154a_154, G154b_154⟩ := q154
            have N154 := Fr.app Nj121 M154
            have Zn155 := Nat.le_trans Zn152 K154.1
            have Al106_156 := own_Al_keep K154 Al106_153 (ninS ne151_ad97_ob nin0)
            have Al118_156 := own_Al_keep K154 Al118_153 (ninS ne151_ad109_ob nin0)
            have A151_156 := A151.keep K154
            show own_Ends p e below s (own_Q0 Z a1 b1 c1 x1 se h0 n0) room_1.cells room_1.slots (T154.setTop (mkF m 270 #[.val (.int a1), .val (.int b1), .val (.int c1), .val (.int x1), .val (.int se), .val (.int (3 : Int32)), .val (.int f0), .val (.int f1), .val (.int f2), .val (.ref ad97), .val (.ref ad109), .val (.int kk), .val (.int qv), .val (.int (0 : Int32)), .unset] [(.ref ob)]))
            refine own_up (S' := T154.setTop (mkF m 272 #[.val (.int a1), .val (.int b1), .val (.int c1), .val (.int x1), .val (.int se), .val (.int (3 : Int32)), .val (.int f0), .val (.int f1), .val (.int f2), .val (.ref ad97), .val (.ref ad109), .val (.int kk), .val (.int qv), .val (.int (0 : Int32)), .val (.ref ob)] [])) (fun t stp => XS.astore X154.here hx rfl (hb hby at_270) rfl rfl (l' := #[.val (.int a1), .val (.int b1), .val (.int c1), .val (.int x1), .val (.int se), .val (.int (3 : Int32)), .val (.int f0), .val (.int f1), .val (.int f2), .val (.ref ad97), .val (.ref ad109), .val (.int kk), .val (.int qv), .val (.int (0 : Int32)), .val (.ref ob)]) rfl stp) ?_
            refine own_up (S' := T154.setTop (mkF m 274 #[.val (.int a1), .val (.int b1), .val (.int c1), .val (.int x1), .val (.int se), .val (.int (3 : Int32)), .val (.int f0), .val (.int f1), .val (.int f2), .val (.ref ad97), .val (.ref ad109), .val (.int kk), .val (.int qv), .val (.int (0 : Int32)), .val (.ref ob)] [(.ref ob)])) (fun t stp => XS.aload X154.here hx rfl (hb hby at_272) rfl rfl stp) ?_
            refine own_up (S' := T154.setTop (mkF m 276 #[.val (.int a1), .val (.int b1), .val (.int c1), .val (.int x1), .val (.int se), .val (.int (3 : Int32)), .val (.int f0), .val (.int f1), .val (.int f2), .val (.ref ad97), .val (.ref ad109), .val (.int kk), .val (.int qv), .val (.int (0 : Int32)), .val (.ref ob)] [(.int qv), (.ref ob)])) (fun t stp => XS.iload X154.here hx rfl (hb hby at_274) rfl stp) ?_
            refine own_callV X154 hx hZ hown (hw _ (List.mem_of_getElem? (i := 14) rfl)) (hw _ (List.mem_of_getElem? (i := 15) rfl)) (hw _ (List.mem_of_getElem? (i := 17) rfl)) (hw _ (List.mem_of_getElem? (i := 16) rfl)) (hw _ (List.mem_of_getElem? (i := 3) rfl)) (hw _ (List.mem_of_getElem? (i := 18) rfl)) (by decide) rfl (rm13 l Z a0 hw [] ob qv ad97 f0 f1 f2 T154.heap n0 Zn155 G154a_154 Al106_156) 0 A151_156 [(.int qv)] [] (hb hby at_276) (lenOf own_pd1 rfl) (by decide) (by decide) (by decide) (by decide) rfl (by rw [hml]; rfl) rfl (by show 2 * 0 + _ ≤ _; exact Nat.le_of_eq rfl) rfl ?_
            intro T157 L157 r157 X157 q157
            obtain ⟨rfl, M157, e157⟩ := q157
            have N157 := Fr.app N154 M157
            show own_Ends p e below s (own_Q0 Z a1 b1 c1 x1 se h0 n0) room_1.cells room_1.slots (T157.setTop (mkF m 279 #[.val (.int a1), .val (.int b1), .val (.int c1), .val (.int x1), .val (.int se), .val (.int (3 : Int32)), .val (.int f0), .val (.int f1), .val (.int f2), .val (.ref ad97), .val (.ref ad109), .val (.int kk), .val (.int qv), .val (.int (0 : Int32)), .val (.ref ob)] [(.int (if f0 = qv then (1 : Int32) else (if f1 = qv then (1 : Int32) else (if f2 = qv then (1 : Int32) else (0 : Int32)))))]))
            refine own_up (S' := T157.setTop (mkF m 281 #[.val (.int a1), .val (.int b1), .val (.int c1), .val (.int x1), .val (.int se), .val (.int (3 : Int32)), .val (.int f0), .val (.int f1), .val (.int f2), .val (.ref ad97), .val (.ref ad109), .val (.int kk), .val (.int qv), .val (.int (0 : Int32)), .val (.ref ob)] [(.int (0 : Int32)), (.int (if f0 = qv then (1 : Int32) else (if f1 = qv then (1 : Int32) else (if f2 = qv then (1 : Int32) else (0 : Int32)))))])) (fun t stp => XS.iload X157.here hx rfl (hb hby at_279) rfl stp) ?_
            have hc281_158 : (if f0 = qv then (1 : Int32) else (if f1 = qv then (1 : Int32) else (if f2 = qv then (1 : Int32) else (0 : Int32)))) = (0 : Int32) := by simp [Ne.symm hc223_122, Ne.symm hc236_132, Ne.symm hc249_142]
            have ihc281_158 : (if f0 = qv then (1 : Int32) else (if f1 = qv then (1 : Int32) else (if f2 = qv then (1 : Int32) else (0 : Int32)))).toInt = 0 := own_ieq hc281_158
            refine own_up (S' := T157.setTop (mkF m 284 #[.val (.int a1), .val (.int b1), .val (.int c1), .val (.int x1), .val (.int se), .val (.int (3 : Int32)), .val (.int f0), .val (.int f1), .val (.int f2), .val (.ref ad97), .val (.ref ad109), .val (.int kk), .val (.int qv), .val (.int (0 : Int32)), .val (.ref ob)] [])) (fun t stp => XS.icmpNo X157.here hx rfl (hb hby at_281) rfl (XT.ii_ne_f hc281_158) stp) ?_
            refine own_up (S' := T157.setTop (mkF m 285 #[.val (.int a1), .val (.int b1), .val (.int c1), .val (.int x1), .val (.int se), .val (.int (3 : Int32)), .val (.int f0), .val (.int f1), .val (.int f2), .val (.ref ad97), .val (.ref ad109), .val (.int kk), .val (.int qv), .val (.int (0 : Int32)), .val (.ref ob)] [(.int (1 : Int32))])) (fun t stp => XT.iconstV X157.here hx rfl (1 : Int32) (hb hby at_284) rfl stp) ?_
            refine own_up (S' := T157.setTop (mkF m 289 #[.val (.int a1), .val (.int b1), .val (.int c1), .val (.int x1), .val (.int se), .val (.int (3 : Int32)), .val (.int f0), .val (.int f1), .val (.int f2), .val (.ref ad97), .val (.ref ad109), .val (.int kk), .val (.int qv), .val (.int (0 : Int32)), .val (.ref ob)] [(.int (1 : Int32))])) (fun t stp => XS.goto X157.here hx rfl (pc0 := 285) (pc' := 289) rfl (hb hby at_285) (by decide) (by decide) stp) ?_
            refine own_retN X157 hx hlk (t := .boolean) hret (by simp) (z' := (1 : Int32)) rfl (hb hby at_289) (by decide) (by decide) ?_
            show own_Q0 Z a1 b1 c1 x1 se h0 n0 _ T157.heap _
            rw [e157]
            exact ⟨rfl, N157⟩
    refine own_up (S' := T118.setTop (mkF m 183 #[.val (.int a1), .val (.int b1), .val (.int c1), .val (.int x1), .val (.int se), .val (.int (3 : Int32)), .val (.int f0), .val (.int f1), .val (.int f2), .val (.ref ad97), .val (.ref ad109), .val (.int kk), .unset, .unset, .unset] [(.int kk)])) (fun t stp => XS.iload X118.here hx rfl (hb hby at_181) rfl stp) ?_
    by_cases hc183_159 : kk = 0
    · have ihc183_159 : kk.toInt = 0 := own_ieq hc183_159
      refine own_up (S' := T118.setTop (mkF m 186 #[.val (.int a1), .val (.int b1), .val (.int c1), .val (.int x1), .val (.int se), .val (.int (3 : Int32)), .val (.int f0), .val (.int f1), .val (.int f2), .val (.ref ad97), .val (.ref ad109), .val (.int kk), .unset, .unset, .unset] [])) (fun t stp => XS.ifNo X118.here hx rfl (hb hby at_183) rfl (XT.i0_ne_f hc183_159) stp) ?_
      refine own_up (S' := T118.setTop (mkF m 187 #[.val (.int a1), .val (.int b1), .val (.int c1), .val (.int x1), .val (.int se), .val (.int (3 : Int32)), .val (.int f0), .val (.int f1), .val (.int f2), .val (.ref ad97), .val (.ref ad109), .val (.int kk), .unset, .unset, .unset] [(.int x1)])) (fun t stp => XS.iloadN X118.here hx rfl (hb hby at_186) rfl stp) ?_
      refine own_up (S' := T118.setTop (mkF m 189 #[.val (.int a1), .val (.int b1), .val (.int c1), .val (.int x1), .val (.int se), .val (.int (3 : Int32)), .val (.int f0), .val (.int f1), .val (.int f2), .val (.ref ad97), .val (.ref ad109), .val (.int kk), .val (.int x1), .unset, .unset] [])) (fun t stp => XS.istore X118.here hx rfl (hb hby at_187) rfl (l' := #[.val (.int a1), .val (.int b1), .val (.int c1), .val (.int x1), .val (.int se), .val (.int (3 : Int32)), .val (.int f0), .val (.int f1), .val (.int f2), .val (.ref ad97), .val (.ref ad109), .val (.int kk), .val (.int x1), .unset, .unset]) rfl stp) ?_
      refine own_up (S' := T118.setTop (mkF m 219 #[.val (.int a1), .val (.int b1), .val (.int c1), .val (.int x1), .val (.int se), .val (.int (3 : Int32)), .val (.int f0), .val (.int f1), .val (.int f2), .val (.ref ad97), .val (.ref ad109), .val (.int kk), .val (.int x1), .unset, .unset] [])) (fun t stp => XS.goto X118.here hx rfl (pc0 := 189) (pc' := 219) rfl (hb hby at_189) (by decide) (by decide) stp) ?_
      exact J219_121 x1 _ N118 T118 X118 e118
    · have ihc183_159 : kk.toInt ≠ 0 := own_ine hc183_159
      refine own_up (S' := T118.setTop (mkF m 192 #[.val (.int a1), .val (.int b1), .val (.int c1), .val (.int x1), .val (.int se), .val (.int (3 : Int32)), .val (.int f0), .val (.int f1), .val (.int f2), .val (.ref ad97), .val (.ref ad109), .val (.int kk), .unset, .unset, .unset] [])) (fun t stp => XS.ifYes X118.here hx rfl (pc0 := 183) (pc' := 192) rfl (hb hby at_183) rfl (XT.i0_ne_t hc183_159) (by decide) (by decide) stp) ?_
      refine own_up (S' := T118.setTop (mkF m 194 #[.val (.int a1), .val (.int b1), .val (.int c1), .val (.int x1), .val (.int se), .val (.int (3 : Int32)), .val (.int f0), .val (.int f1), .val (.int f2), .val (.ref ad97), .val (.ref ad109), .val (.int kk), .unset, .unset, .unset] [(.int kk)])) (fun t stp => XS.iload X118.here hx rfl (hb hby at_192) rfl stp) ?_
      refine own_up (S' := T118.setTop (mkF m 195 #[.val (.int a1), .val (.int b1), .val (.int c1), .val (.int x1), .val (.int se), .val (.int (3 : Int32)), .val (.int f0), .val (.int f1), .val (.int f2), .val (.ref ad97), .val (.ref ad109), .val (.int kk), .unset, .unset, .unset] [(.int (1 : Int32)), (.int kk)])) (fun t stp => XT.iconstV X118.here hx rfl (1 : Int32) (hb hby at_194) rfl stp) ?_
      by_cases hc195_160 : kk = (1 : Int32)
      · have ihc195_160 : kk.toInt = 1 := own_ieq hc195_160
        refine own_up (S' := T118.setTop (mkF m 198 #[.val (.int a1), .val (.int b1), .val (.int c1), .val (.int x1), .val (.int se), .val (.int (3 : Int32)), .val (.int f0), .val (.int f1), .val (.int f2), .val (.ref ad97), .val (.ref ad109), .val (.int kk), .unset, .unset, .unset] [])) (fun t stp => XS.icmpNo X118.here hx rfl (hb hby at_195) rfl (XT.ii_ne_f hc195_160) stp) ?_
        refine own_up (S' := T118.setTop (mkF m 199 #[.val (.int a1), .val (.int b1), .val (.int c1), .val (.int x1), .val (.int se), .val (.int (3 : Int32)), .val (.int f0), .val (.int f1), .val (.int f2), .val (.ref ad97), .val (.ref ad109), .val (.int kk), .unset, .unset, .unset] [(.int a1)])) (fun t stp => XS.iloadN X118.here hx rfl (hb hby at_198) rfl stp) ?_
        refine own_up (S' := T118.setTop (mkF m 201 #[.val (.int a1), .val (.int b1), .val (.int c1), .val (.int x1), .val (.int se), .val (.int (3 : Int32)), .val (.int f0), .val (.int f1), .val (.int f2), .val (.ref ad97), .val (.ref ad109), .val (.int kk), .val (.int a1), .unset, .unset] [])) (fun t stp => XS.istore X118.here hx rfl (hb hby at_199) rfl (l' := #[.val (.int a1), .val (.int b1), .val (.int c1), .val (.int x1), .val (.int se), .val (.int (3 : Int32)), .val (.int f0), .val (.int f1), .val (.int f2), .val (.ref ad97), .val (.ref ad109), .val (.int kk), .val (.int a1), .unset, .unset]) rfl stp) ?_
        refine own_up (S' := T118.setTop (mkF m 219 #[.val (.int a1), .val (.int b1), .val (.int c1), .val (.int x1), .val (.int se), .val (.int (3 : Int32)), .val (.int f0), .val (.int f1), .val (.int f2), .val (.ref ad97), .val (.ref ad109), .val (.int kk), .val (.int a1), .unset, .unset] [])) (fun t stp => XS.goto X118.here hx rfl (pc0 := 201) (pc' := 219) rfl (hb hby at_201) (by decide) (by decide) stp) ?_
        exact J219_121 a1 _ N118 T118 X118 e118
      · have ihc195_160 : kk.toInt ≠ 1 := own_ine hc195_160
        refine own_up (S' := T118.setTop (mkF m 204 #[.val (.int a1), .val (.int b1), .val (.int c1), .val (.int x1), .val (.int se), .val (.int (3 : Int32)), .val (.int f0), .val (.int f1), .val (.int f2), .val (.ref ad97), .val (.ref ad109), .val (.int kk), .unset, .unset, .unset] [])) (fun t stp => XS.icmpYes X118.here hx rfl (pc0 := 195) (pc' := 204) rfl (hb hby at_195) rfl (XT.ii_ne_t hc195_160) (by decide) (by decide) stp) ?_
        refine own_up (S' := T118.setTop (mkF m 206 #[.val (.int a1), .val (.int b1), .val (.int c1), .val (.int x1), .val (.int se), .val (.int (3 : Int32)), .val (.int f0), .val (.int f1), .val (.int f2), .val (.ref ad97), .val (.ref ad109), .val (.int kk), .unset, .unset, .unset] [(.int kk)])) (fun t stp => XS.iload X118.here hx rfl (hb hby at_204) rfl stp) ?_
        refine own_up (S' := T118.setTop (mkF m 207 #[.val (.int a1), .val (.int b1), .val (.int c1), .val (.int x1), .val (.int se), .val (.int (3 : Int32)), .val (.int f0), .val (.int f1), .val (.int f2), .val (.ref ad97), .val (.ref ad109), .val (.int kk), .unset, .unset, .unset] [(.int (2 : Int32)), (.int kk)])) (fun t stp => XT.iconstV X118.here hx rfl (2 : Int32) (hb hby at_206) rfl stp) ?_
        by_cases hc207_161 : kk = (2 : Int32)
        · have ihc207_161 : kk.toInt = 2 := own_ieq hc207_161
          refine own_up (S' := T118.setTop (mkF m 210 #[.val (.int a1), .val (.int b1), .val (.int c1), .val (.int x1), .val (.int se), .val (.int (3 : Int32)), .val (.int f0), .val (.int f1), .val (.int f2), .val (.ref ad97), .val (.ref ad109), .val (.int kk), .unset, .unset, .unset] [])) (fun t stp => XS.icmpNo X118.here hx rfl (hb hby at_207) rfl (XT.ii_ne_f hc207_161) stp) ?_
          refine own_up (S' := T118.setTop (mkF m 211 #[.val (.int a1), .val (.int b1), .val (.int c1), .val (.int x1), .val (.int se), .val (.int (3 : Int32)), .val (.int f0), .val (.int f1), .val (.int f2), .val (.ref ad97), .val (.ref ad109), .val (.int kk), .unset, .unset, .unset] [(.int b1)])) (fun t stp => XS.iloadN X118.here hx rfl (hb hby at_210) rfl stp) ?_
          refine own_up (S' := T118.setTop (mkF m 213 #[.val (.int a1), .val (.int b1), .val (.int c1), .val (.int x1), .val (.int se), .val (.int (3 : Int32)), .val (.int f0), .val (.int f1), .val (.int f2), .val (.ref ad97), .val (.ref ad109), .val (.int kk), .val (.int b1), .unset, .unset] [])) (fun t stp => XS.istore X118.here hx rfl (hb hby at_211) rfl (l' := #[.val (.int a1), .val (.int b1), .val (.int c1), .val (.int x1), .val (.int se), .val (.int (3 : Int32)), .val (.int f0), .val (.int f1), .val (.int f2), .val (.ref ad97), .val (.ref ad109), .val (.int kk), .val (.int b1), .unset, .unset]) rfl stp) ?_
          refine own_up (S' := T118.setTop (mkF m 219 #[.val (.int a1), .val (.int b1), .val (.int c1), .val (.int x1), .val (.int se), .val (.int (3 : Int32)), .val (.int f0), .val (.int f1), .val (.int f2), .val (.ref ad97), .val (.ref ad109), .val (.int kk), .val (.int b1), .unset, .unset] [])) (fun t stp => XS.goto X118.here hx rfl (pc0 := 213) (pc' := 219) rfl (hb hby at_213) (by decide) (by decide) stp) ?_
          exact J219_121 b1 _ N118 T118 X118 e118
        · have ihc207_161 : kk.toInt ≠ 2 := own_ine hc207_161
          refine own_up (S' := T118.setTop (mkF m 216 #[.val (.int a1), .val (.int b1), .val (.int c1), .val (.int x1), .val (.int se), .val (.int (3 : Int32)), .val (.int f0), .val (.int f1), .val (.int f2), .val (.ref ad97), .val (.ref ad109), .val (.int kk), .unset, .unset, .unset] [])) (fun t stp => XS.icmpYes X118.here hx rfl (pc0 := 207) (pc' := 216) rfl (hb hby at_207) rfl (XT.ii_ne_t hc207_161) (by decide) (by decide) stp) ?_
          refine own_up (S' := T118.setTop (mkF m 217 #[.val (.int a1), .val (.int b1), .val (.int c1), .val (.int x1), .val (.int se), .val (.int (3 : Int32)), .val (.int f0), .val (.int f1), .val (.int f2), .val (.ref ad97), .val (.ref ad109), .val (.int kk), .unset, .unset, .unset] [(.int c1)])) (fun t stp => XS.iloadN X118.here hx rfl (hb hby at_216) rfl stp) ?_
          refine own_up (S' := T118.setTop (mkF m 219 #[.val (.int a1), .val (.int b1), .val (.int c1), .val (.int x1), .val (.int se), .val (.int (3 : Int32)), .val (.int f0), .val (.int f1), .val (.int f2), .val (.ref ad97), .val (.ref ad109), .val (.int kk), .val (.int c1), .unset, .unset] [])) (fun t stp => XS.istore X118.here hx rfl (hb hby at_217) rfl (l' := #[.val (.int a1), .val (.int b1), .val (.int c1), .val (.int x1), .val (.int se), .val (.int (3 : Int32)), .val (.int f0), .val (.int f1), .val (.int f2), .val (.ref ad97), .val (.ref ad109), .val (.int kk), .val (.int c1), .unset, .unset]) rfl stp) ?_
          exact J219_121 c1 _ N118 T118 X118 e118
set_option maxRecDepth 65536 in
set_option maxHeartbeats 40000000 in
theorem comes_1 {Post : Tables → Env → Array Value → State → Outcome → State → Prop} (hpost : ∀ tb e args s v u, (limb_1_1.after args s (.returned v) u = true ∧ limb_1_2.after args s (.returned v) u = true ∧ True) → FrameEnd s (.returned v) u (Jvm.fieldLocs frame_1_writes args s ++ Jvm.arrayLocs frame_1_arrays args s ++ Jvm.staticLocs frame_1_statics s) 16 128 → Post tb e args s (.returned v) u) :
    ArmFor flags0 classFile x code maxLocals ret World_1 tables_1 room_1 Calls_1 rest_1 Pre_1 Post := by
  intro l hfl _ _ p e ha hc hk s m args below hf hA hF happ hP
  obtain ⟨hcalls, hrest, hpre⟩ := hP
  obtain ⟨-, -, -, hnamed, -, -, -, hat⟩ := (Spec.applies_iff hf).mp happ
  obtain ⟨hg, hn⟩ := and_e (Cond.before_iff.mp (show (Jvm.Cond.and given_1 narrow_1).before args s = true from hpre))
  obtain ⟨g0, k0⟩ := and_e hg
  obtain ⟨g1, k1⟩ := and_e k0
  obtain ⟨g2, k2⟩ := and_e k1
  obtain ⟨g3, k3⟩ := and_e k2
  obtain ⟨g4, k4⟩ := and_e k3
  obtain ⟨w0, w1, w2, w3, w4, rfl⟩ : ∃ w0 w1 w2 w3 w4 : Value, args = #[w0, w1, w2, w3, w4] := by
    have hs : args.size = 5 := by simpa [Cond.value, given_1] using g0
    obtain ⟨L⟩ := args
    match L, hs with
    | [w0, w1, w2, w3, w4], _ => exact ⟨w0, w1, w2, w3, w4, rfl⟩
  have hw := fun d (hd : d ∈ tables_1) => atoms_spec (ws := Jvm.Cond.code x code maxLocals ret :: tables_1) hat d (List.mem_cons_of_mem _ hd)
  obtain ⟨i0, ei0⟩ := is_v g1
  obtain rfl : w0 = (.int i0) := Option.some.inj ei0
  obtain ⟨i1, ei1⟩ := is_v g2
  obtain rfl : w1 = (.int i1) := Option.some.inj ei1
  obtain ⟨i2, ei2⟩ := is_v g3
  obtain rfl : w2 = (.int i2) := Option.some.inj ei2
  obtain ⟨i3, ei3⟩ := is_v g4
  obtain rfl : w3 = (.int i3) := Option.some.inj ei3
  obtain ⟨i4, ei4⟩ := is_v k4
  obtain rfl : w4 = (.int i4) := Option.some.inj ei4
  obtain ⟨n, o, h1, h2, h3, _, L, rfl, ⟨rfl, N⟩, hq⟩ := rm0 l s _ hw tables_1 i0 i1 i2 i3 i4 s.heap s.heap.size (Nat.le_refl _)  p e ha hc hk s m _ below hf ((Spec.applies_iff_loose hf).mp happ).1 ⟨rfl, State.Warmed39.refl s, rfl⟩ trivial
  refine ⟨n, _, h1, h2, h3, hpost _ _ _ _ _ _ ⟨Cond.after_iff.mpr rfl, Cond.after_iff.mpr (eq_i res_at (Term.int_eval (1)) rfl), trivial⟩ ⟨hq.1, hq.2.1, (hq.2.2.sift fun y hy => Or.inr (N y hy)).mono (by decide) (by decide)⟩⟩
theorem main_1_1 : Claimed_1_1 := comes_1 fun _ _ _ _ _ _ h hF => ⟨h.1, hF⟩
theorem main_1_2 : Claimed_1_2 := comes_1 fun _ _ _ _ _ _ h hF => ⟨h.2.1, hF⟩
end Jvm.Pilot.@@N@@
namespace Jvm.Pilot.@@N@@
open Jvm Jvm.ClassFile Sem Op Lib Jvm.Free Jvm.Stand Jvm.Pilot.@@N@@.Jvm.D
/-! MADE BY PROGRAM (witnessworld.py) out of the Statement's table words and the real class files: 10 classes; the members and pool entries that the words name. The judged class is class 1, her method 1. -/
namespace start1
open Jvm.ClassFile
def u (s : String) : CpInfo := .utf8 (stringToUtf16 s)
/-- a pool by its gaps: so many unusable entries, then the entry; so many at the end -/
def gap : Nat → List CpInfo → List CpInfo
  | 0, r => r
  | n + 1, r => .unusable :: gap n r
def poolList (es : List (Nat × CpInfo)) (last : Nat) : List CpInfo := es.foldr (fun e r => gap e.1 (e.2 :: r)) (gap last [])
def pool (es : List (Nat × CpInfo)) (last : Nat) : Array CpInfo := ⟨poolList es last⟩
def fileOf (pool : Array CpInfo) (this : Nat) (attrs : Array Attribute := #[]) (ms : Array MethodInfo := #[]) (fl : Nat := 33) (sup : Nat := 0) (ifs : Array Nat := #[]) (fds : Array FieldInfo := #[]) : ClassFile where
  minorVersion := 0
  majorVersion := 65
  constantPool := pool
  accessFlags := fl
  thisClass := this
  superClass := sup
  interfaces := ifs
  fields := fds
  methods := ms
  attributes := attrs
def plain (name : String) (sup : Option ClassId) : Class where
  name := name
  kind := .ordinary
  loader := none
  accessFlags := 33
  super := sup
  interfaces := #[]
  cf := none
  fields := #[]
  methods := #[]
  instanceTypes := #[]
  staticTypes := #[]
  resolved := #[]
  callSites := []
  init := .initialized
  statics := none
  mirror := none

def pool0 : Array CpInfo := pool [(5, u "<init>"), (0, u "()V"), (1, .class_ 10), (1, u "java/lang/Object")] 113

def k0c0 : Code := { maxStack := 0, maxLocals := 1, code := object_method_1_code, exceptionTable := #[], attributes := #[] }
def k0m0 : Method := { name := "<init>", desc := "()V", sig := { parameters := [], returnType := none }, accessFlags := 1, code := some k0c0 }
/-- java/lang/Object -/
def k0 : Class := { plain "java/lang/Object" none with
  accessFlags := 33
  interfaces := #[]
  cf := some (fileOf pool0 8 #[] #[{ accessFlags := 1, nameIndex := 5, descriptorIndex := 6, attributes := #[] }] 33 0 #[] #[])
  fields := #[]
  methods := #[k0m0]
  instanceTypes := #[]
  staticTypes := #[]
  resolved := Array.replicate 124 none
  statics := none }

def pool1 : Array CpInfo := pool [(2, .class_ 4), (1, u "java/lang/Object"), (0, u "<init>"), (0, u "()V"), (0, .methodref 8 9), (0, .class_ 10), (0, .nameAndType 11 12), (0, u "java/lang/Math"), (0, u "min"), (0, u "(II)I"), (0, .methodref 8 14), (0, .nameAndType 15 12), (0, u "max"), (0, .class_ 17), (0, u "com/example/kinglet/kinglet/index/Occurrences"), (0, .methodref 16 19), (0, .nameAndType 5 20), (0, u "([I[I)V"), (0, .methodref 16 22), (0, .nameAndType 23 24), (0, u "inField"), (0, u "(I)Z"), (0, .class_ 26), (0, u "com/example/kinglet/kinglet/index/OccurrencesInFieldPinLaw"), (2, u "law"), (0, u "(IIIII)Z")] 5

def k1m0 : Method := { name := "<init>", desc := "()V", sig := { parameters := [], returnType := none }, accessFlags := 1, code := none }
def k1c1 : Code := { maxStack := 4, maxLocals := 15, code := code, exceptionTable := #[], attributes := #[] }
def k1m1 : Method := { name := "law", desc := "(IIIII)Z", sig := { parameters := [.int, .int, .int, .int, .int], returnType := some .boolean }, accessFlags := 9, code := some k1c1 }
/-- com/example/kinglet/kinglet/index/OccurrencesInFieldPinLaw -/
def k1 : Class := { plain "com/example/kinglet/kinglet/index/OccurrencesInFieldPinLaw" (some 0) with
  accessFlags := 49
  interfaces := #[]
  cf := some (fileOf pool1 25 #[] #[{ accessFlags := 1, nameIndex := 5, descriptorIndex := 6, attributes := #[] }, { accessFlags := 9, nameIndex := 29, descriptorIndex := 30, attributes := #[] }] 49 2 #[] #[])
  fields := #[]
  methods := #[k1m0, k1m1]
  instanceTypes := #[]
  staticTypes := #[]
  resolved := Array.replicate 36 none
  statics := none }

def pool2 : Array CpInfo := pool [(1, .methodref 2 3), (0, .class_ 4), (0, .nameAndType 5 6), (0, u "java/lang/Object"), (0, u "<init>"), (0, u "()V"), (0, .fieldref 8 9), (0, .class_ 10), (0, .nameAndType 11 12), (0, u "com/example/kinglet/kinglet/index/Occurrences"), (0, u "fields"), (0, u "[I"), (0, .fieldref 8 14), (0, .nameAndType 15 12), (0, u "positions"), (9, u "([I[I)V"), (10, u "inField"), (0, u "(I)Z")] 2

def k2c0 : Code := { maxStack := 2, maxLocals := 3, code := prog_40_method_1_code, exceptionTable := #[], attributes := #[] }
def k2m0 : Method := { name := "<init>", desc := "([I[I)V", sig := { parameters := [(.array .int), (.array .int)], returnType := none }, accessFlags := 0, code := some k2c0 }
def k2c1 : Code := { maxStack := 2, maxLocals := 3, code := prog_40_method_7_code, exceptionTable := #[], attributes := #[] }
def k2m1 : Method := { name := "inField", desc := "(I)Z", sig := { parameters := [.int], returnType := some .boolean }, accessFlags := 1, code := some k2c1 }
/-- com/example/kinglet/kinglet/index/Occurrences -/
def k2 : Class := { plain "com/example/kinglet/kinglet/index/Occurrences" (some 0) with
  accessFlags := 33
  interfaces := #[]
  cf := some (fileOf pool2 8 #[] #[{ accessFlags := 0, nameIndex := 5, descriptorIndex := 25, attributes := #[] }, { accessFlags := 1, nameIndex := 36, descriptorIndex := 37, attributes := #[] }] 33 2 #[] #[{ accessFlags := 18, nameIndex := 11, descriptorIndex := 12, attributes := #[] }, { accessFlags := 18, nameIndex := 15, descriptorIndex := 12, attributes := #[] }])
  fields := #[{ name := "fields", type := (.array .int), accessFlags := 18, slot := 0, constantValue := 0 }, { name := "positions", type := (.array .int), accessFlags := 18, slot := 1, constantValue := 0 }]
  methods := #[k2m0, k2m1]
  instanceTypes := #[(.array .int), (.array .int)]
  staticTypes := #[]
  resolved := Array.replicate 40 none
  statics := none }

def pool3 : Array CpInfo := pool [(1, .class_ 2), (0, u "java/lang/Math"), (1, .class_ 6), (1, u "java/lang/Object"), (0, u "<init>"), (0, u "()V"), (89, .class_ 100), (1, u "java/lang/Math$RandomNumberGeneratorHolder"), (71, u "negativeZeroFloatBits"), (0, u "J"), (2, u "negativeZeroDoubleBits"), (21, u "max"), (2, u "min"), (43, u "$assertionsDisabled"), (0, u "Z"), (88, u "(II)I"), (2, u "twoToTheDoubleScaleDown"), (0, u "D"), (4, u "twoToTheDoubleScaleUp"), (9, u "E"), (3, u "PI"), (2, u "TAU"), (2, u "DEGREES_TO_RADIANS"), (0, u "RADIANS_TO_DEGREES")] 94

def k3m0 : Method := { name := "<init>", desc := "()V", sig := { parameters := [], returnType := none }, accessFlags := 2, code := none }
def k3c1 : Code := { maxStack := 2, maxLocals := 2, code := jdk_29_method_65_code, exceptionTable := #[], attributes := #[] }
def k3m1 : Method := { name := "max", desc := "(II)I", sig := { parameters := [.int, .int], returnType := some .int }, accessFlags := 9, code := some k3c1 }
def k3c2 : Code := { maxStack := 2, maxLocals := 2, code := jdk_29_method_69_code, exceptionTable := #[], attributes := #[] }
def k3m2 : Method := { name := "min", desc := "(II)I", sig := { parameters := [.int, .int], returnType := some .int }, accessFlags := 9, code := some k3c2 }
/-- java/lang/Math -/
def k3 : Class := { plain "java/lang/Math" (some 0) with
  accessFlags := 49
  interfaces := #[]
  cf := some (fileOf pool3 1 #[.nestMembers #[98]] #[{ accessFlags := 2, nameIndex := 7, descriptorIndex := 8, attributes := #[] }, { accessFlags := 9, nameIndex := 198, descriptorIndex := 335, attributes := #[] }, { accessFlags := 9, nameIndex := 201, descriptorIndex := 335, attributes := #[] }] 49 4 #[] #[{ accessFlags := 25, nameIndex := 354, descriptorIndex := 339, attributes := #[] }, { accessFlags := 25, nameIndex := 358, descriptorIndex := 339, attributes := #[] }, { accessFlags := 25, nameIndex := 361, descriptorIndex := 339, attributes := #[] }, { accessFlags := 26, nameIndex := 364, descriptorIndex := 339, attributes := #[] }, { accessFlags := 26, nameIndex := 365, descriptorIndex := 339, attributes := #[] }, { accessFlags := 26, nameIndex := 172, descriptorIndex := 173, attributes := #[] }, { accessFlags := 26, nameIndex := 176, descriptorIndex := 173, attributes := #[] }, { accessFlags := 8, nameIndex := 344, descriptorIndex := 339, attributes := #[] }, { accessFlags := 8, nameIndex := 338, descriptorIndex := 339, attributes := #[] }, { accessFlags := 4120, nameIndex := 245, descriptorIndex := 246, attributes := #[] }])
  fields := #[{ name := "E", type := .double, accessFlags := 25, slot := 0, constantValue := 0 }, { name := "PI", type := .double, accessFlags := 25, slot := 1, constantValue := 0 }, { name := "TAU", type := .double, accessFlags := 25, slot := 2, constantValue := 0 }, { name := "DEGREES_TO_RADIANS", type := .double, accessFlags := 26, slot := 3, constantValue := 0 }, { name := "RADIANS_TO_DEGREES", type := .double, accessFlags := 26, slot := 4, constantValue := 0 }, { name := "negativeZeroFloatBits", type := .long, accessFlags := 26, slot := 5, constantValue := 0 }, { name := "negativeZeroDoubleBits", type := .long, accessFlags := 26, slot := 6, constantValue := 0 }, { name := "twoToTheDoubleScaleUp", type := .double, accessFlags := 8, slot := 7, constantValue := 0 }, { name := "twoToTheDoubleScaleDown", type := .double, accessFlags := 8, slot := 8, constantValue := 0 }, { name := "$assertionsDisabled", type := .boolean, accessFlags := 4120, slot := 9, constantValue := 0 }]
  methods := #[k3m0, k3m1, k3m2]
  instanceTypes := #[]
  staticTypes := #[.double, .double, .double, .double, .double, .long, .long, .double, .double, .boolean]
  resolved := Array.replicate 460 none
  statics := none }

def pool4 : Array CpInfo := pool [(1, u "java/lang/Cloneable"), (0, .class_ 1), (0, u "java/lang/Object"), (0, .class_ 3)] 3

/-- java/lang/Cloneable -/
def k4 : Class := { plain "java/lang/Cloneable" (some 0) with
  accessFlags := 1537
  interfaces := #[]
  cf := some (fileOf pool4 2 #[] #[] 1537 4 #[] #[])
  fields := #[]
  methods := #[]
  instanceTypes := #[]
  staticTypes := #[]
  resolved := Array.replicate 8 none
  statics := none }

def pool5 : Array CpInfo := pool [(1, u "java/io/Serializable"), (0, .class_ 1), (0, u "java/lang/Object"), (0, .class_ 3)] 3

/-- java/io/Serializable -/
def k5 : Class := { plain "java/io/Serializable" (some 0) with
  accessFlags := 1537
  interfaces := #[]
  cf := some (fileOf pool5 2 #[] #[] 1537 4 #[] #[])
  fields := #[]
  methods := #[]
  instanceTypes := #[]
  staticTypes := #[]
  resolved := Array.replicate 8 none
  statics := none }

/-- the primitive byte -/
def k6 : Class := { plain "byte" none with kind := .primitive 'B', accessFlags := 0x411 }
/-- [B -/
def k7 : Class := { plain "[B" (some 0) with kind := .array 6 .byte, interfaces := #[4, 5], accessFlags := 1041 }

/-- the primitive int -/
def k8 : Class := { plain "int" none with kind := .primitive 'I', accessFlags := 0x411 }
/-- [I -/
def k9 : Class := { plain "[I" (some 0) with kind := .array 8 .int, interfaces := #[4, 5], accessFlags := 1041 }

def heap : Heap := #[]
def classes : Array Class := #[k0, k1, k2, k3, k4, k5, k6, k7, k8, k9]
def interned : List (Array UInt16 × Addr) := []
def slotsUsed : Nat := 0
def theMethod : MethodId := ⟨1, 1⟩
def args0 : Array Value := #[.int 70, .int 3, .int 9, .int 9, .int 2]
def aboutOver (below : List Frame) : State where
  vm := { classes := classes, interned := interned.toArray }
  heap := heap
  slotsUsed := slotsUsed
  threads := #[{ frames := .invoking theMethod args0 :: below }]
def below0 : List Frame := [.native { method := ⟨0, 0⟩, args := #[] }]
def about1 : State := aboutOver below0
def p0 : Program := .bare "" "" ""
def e0 : Env := launch0.env 0 0 0
theorem w_frames : about1.frames = Frame.invoking theMethod args0 :: below0 := rfl
set_option maxRecDepth 65536 in
theorem w_args : argsFit about1.vm theMethod args0 = true := by decide +kernel
set_option maxRecDepth 65536 in
theorem w_heap : heapFits about1 = true := by decide +kernel
set_option maxRecDepth 65536 in
theorem w_runnable : about1.curStatus? = some .runnable := by decide +kernel
set_option maxRecDepth 65536 in
theorem w_alone : about1.alone = true := by decide +kernel
set_option maxRecDepth 65536 in
theorem w_named : about1.methodNamed? x = some theMethod := by decide +kernel
set_option maxRecDepth 65536 in
theorem w_hears : about1.hears theMethod below0 = true := by decide +kernel
set_option maxRecDepth 65536 in
theorem w_ripe : about1.ripe theMethod args0 below0 = true := by decide +kernel
theorem w_running : about1.status = .running := rfl
set_option maxRecDepth 65536 in
theorem w_room : about1.hasRoom e0.platform room_1 = true :=
  launch0.hasRoom_least _ room_1 (by decide +kernel) (by decide +kernel) (by decide +kernel) (by decide +kernel) (by decide +kernel) (by decide +kernel)
theorem allAtoms_all (ts : List Jvm.Cond) (a : Array Jvm.Value) (st : Jvm.State) : (allAtoms ts).before a st = ts.all (fun c => c.before a st) := by
  induction ts with
  | nil => rfl
  | cons c t ih =>
    show (Jvm.Cond.and c (allAtoms t)).before a st = _
    rw [Jvm.Cond.before_and, ih, List.all_cons]
def words1 : List Jvm.Cond := Jvm.Cond.code x code maxLocals ret :: tables_1
/-- a 'code' word, met by the world's own term for the bytes: nothing is compared byte by byte -/
theorem code_word {y : MethodName} {bytes : ByteArray} {mx : Nat} {rt : Option FieldType} {a : Array Value} {s : State} {m : MethodId} {meth : Method} {c : Code} (h1 : s.methodNamed? y = some m) (h2 : s.vm.method? m = some meth) (h3 : meth.code = some c) (h4 : c.code = bytes)
    (h5 : (c.maxLocals == mx && c.exceptionTable.isEmpty && decide (c.maxStack ≤ mostOperands) && decide (meth.sig.returnType = rt) && !meth.locks && decide (parseMethodDescriptor y.desc = some meth.sig)) = true) : (Jvm.Cond.code y bytes mx rt).before a s = true := by
  simp only [Bool.and_eq_true, beq_iff_eq, Bool.not_eq_true', decide_eq_true_eq] at h5
  obtain ⟨⟨⟨⟨⟨g1, g2⟩, g3⟩, g4⟩, g5⟩, g6⟩ := h5
  simp [Cond.before, Cond.holds, Cond.value, h1, h2, h3, h4, g1, g2, g3, g4, g5, g6]
def isCode : Jvm.Cond → Bool
  | .code _ _ _ _ => true
  | _ => false
theorem all_split {L : List Jvm.Cond} {P : Jvm.Cond → Bool} (h1 : L.all (fun c => isCode c || P c) = true) (h2 : ∀ c ∈ L.filter isCode, P c = true) : L.all P = true := by
  refine List.all_eq_true.mpr fun c hc => ?_
  have h := List.all_eq_true.mp h1 c hc
  rcases Bool.eq_false_or_eq_true (isCode c) with hi | hi
  · exact h2 c (List.mem_filter.mpr ⟨hc, hi⟩)
  · simpa [hi] using h
set_option maxRecDepth 65536 in
theorem w_c0 : (Jvm.Cond.code x code maxLocals ret).before args0 about1 = true := code_word (m := ⟨1, 1⟩) (meth := k1m1) (c := k1c1) (by decide +kernel) rfl rfl rfl (by decide +kernel)
set_option maxRecDepth 65536 in
theorem w_c1 : (Jvm.Cond.code ({ cls := "com/example/kinglet/kinglet/index/Occurrences", name := "<init>", desc := "([I[I)V" } : Jvm.MethodName) prog_40_method_1_code (3 : Nat) (Option.none : Option Jvm.ClassFile.FieldType)).before args0 about1 = true := code_word (m := ⟨2, 0⟩) (meth := k2m0) (c := k2c0) (by decide +kernel) rfl rfl rfl (by decide +kernel)
set_option maxRecDepth 65536 in
theorem w_c2 : (Jvm.Cond.code ({ cls := "java/lang/Object", name := "<init>", desc := "()V" } : Jvm.MethodName) object_method_1_code (1 : Nat) (Option.none : Option Jvm.ClassFile.FieldType)).before args0 about1 = true := code_word (m := ⟨0, 0⟩) (meth := k0m0) (c := k0c0) (by decide +kernel) rfl rfl rfl (by decide +kernel)
set_option maxRecDepth 65536 in
theorem w_c3 : (Jvm.Cond.code ({ cls := "com/example/kinglet/kinglet/index/Occurrences", name := "inField", desc := "(I)Z" } : Jvm.MethodName) prog_40_method_7_code (3 : Nat) (Option.some Jvm.ClassFile.FieldType.boolean)).before args0 about1 = true := code_word (m := ⟨2, 1⟩) (meth := k2m1) (c := k2c1) (by decide +kernel) rfl rfl rfl (by decide +kernel)
set_option maxRecDepth 65536 in
theorem w_c4 : (Jvm.Cond.code ({ cls := "java/lang/Math", name := "min", desc := "(II)I" } : Jvm.MethodName) jdk_29_method_69_code (2 : Nat) (Option.some Jvm.ClassFile.FieldType.int)).before args0 about1 = true := code_word (m := ⟨3, 2⟩) (meth := k3m2) (c := k3c2) (by decide +kernel) rfl rfl rfl (by decide +kernel)
set_option maxRecDepth 65536 in
theorem w_c5 : (Jvm.Cond.code ({ cls := "java/lang/Math", name := "max", desc := "(II)I" } : Jvm.MethodName) jdk_29_method_65_code (2 : Nat) (Option.some Jvm.ClassFile.FieldType.int)).before args0 about1 = true := code_word (m := ⟨3, 1⟩) (meth := k3m1) (c := k3c1) (by decide +kernel) rfl rfl rfl (by decide +kernel)
def codes1 : List Jvm.Cond := [Jvm.Cond.code x code maxLocals ret, Jvm.Cond.code ({ cls := "com/example/kinglet/kinglet/index/Occurrences", name := "<init>", desc := "([I[I)V" } : Jvm.MethodName) prog_40_method_1_code (3 : Nat) (Option.none : Option Jvm.ClassFile.FieldType), Jvm.Cond.code ({ cls := "java/lang/Object", name := "<init>", desc := "()V" } : Jvm.MethodName) object_method_1_code (1 : Nat) (Option.none : Option Jvm.ClassFile.FieldType), Jvm.Cond.code ({ cls := "com/example/kinglet/kinglet/index/Occurrences", name := "inField", desc := "(I)Z" } : Jvm.MethodName) prog_40_method_7_code (3 : Nat) (Option.some Jvm.ClassFile.FieldType.boolean), Jvm.Cond.code ({ cls := "java/lang/Math", name := "min", desc := "(II)I" } : Jvm.MethodName) jdk_29_method_69_code (2 : Nat) (Option.some Jvm.ClassFile.FieldType.int), Jvm.Cond.code ({ cls := "java/lang/Math", name := "max", desc := "(II)I" } : Jvm.MethodName) jdk_29_method_65_code (2 : Nat) (Option.some Jvm.ClassFile.FieldType.int)]
set_option maxRecDepth 65536 in
theorem codes_eq : words1.filter isCode = codes1 := rfl
theorem w_codes : ∀ c ∈ words1.filter isCode, c.before args0 about1 = true := by
  rw [codes_eq]
  intro c hc
  simp only [codes1, List.mem_cons, List.not_mem_nil, or_false] at hc
  rcases hc with rfl | rfl | rfl | rfl | rfl | rfl
  · exact w_c0
  · exact w_c1
  · exact w_c2
  · exact w_c3
  · exact w_c4
  · exact w_c5
set_option maxRecDepth 65536 in
theorem w_t1 : (words1.take 24).all (fun c => isCode c || c.before args0 about1) = true := by decide +kernel
set_option maxRecDepth 65536 in
theorem w_t2 : (words1.drop 24).all (fun c => isCode c || c.before args0 about1) = true := by decide +kernel
theorem w_tables : (allAtoms (Jvm.Cond.code x code maxLocals ret :: tables_1)).before args0 about1 = true := by
  rw [allAtoms_all]
  show words1.all (fun c => c.before args0 about1) = true
  refine all_split ?_ w_codes
  rw [← List.take_append_drop 24 words1, List.all_append, w_t1, w_t2]
  rfl
set_option maxRecDepth 65536 in
theorem w_case : (Jvm.Cond.and given_1 narrow_1).before args0 about1 = true := by decide +kernel
theorem w_applies : (headSpec (Jvm.Cond.code x code maxLocals ret :: tables_1) room_1).applies x e0.platform about1 = true :=
  (Spec.applies_iff w_frames).mpr ⟨w_running, w_runnable, w_alone, w_named, w_hears, w_ripe, w_room, w_tables⟩
theorem atStart : AtStart classFile x code maxLocals ret World_1 tables_1 room_1 Calls_1 rest_1 Pre_1 launch0 p0 e0 about1 theMethod args0 below0 :=
  ⟨lists_1, trivial, launch0.admits_env _ _ _, launch0.least_env, fairChoices_fair.cas, fairChoices_fair.clock, w_frames, w_args, w_heap, w_applies, trivial, trivial, w_case⟩
end start1
theorem witness_1 : WitnessClaimed_1 := ⟨start1.p0, start1.e0, start1.about1, start1.theMethod, start1.args0, start1.below0, start1.atStart⟩
end Jvm.Pilot.@@N@@
