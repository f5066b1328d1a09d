import JvmDerived
import JvmDerived.Pilot.@@N@@Statement
import JvmDerived.Pilot.@@N@@Code
set_option linter.unusedVariables false
set_option linter.unusedSimpArgs false
namespace Jvm.Pilot.@@N@@
open Jvm Jvm.ClassFile Sem Op Lib Jvm.Free Jvm.Stand Jvm.LawKit Jvm.RoadKit Bundle Jvm.Pilot.@@N@@.Jvm.D
section Own
/-! comparisons, said of the integers -/
theorem own_ieq {x y : Int32} (h : x = y) : x.toInt = y.toInt := by rw [h]
theorem own_ine {x y : Int32} (h : ¬ (x = y)) : x.toInt ≠ y.toInt := fun q => h (Int32.toInt_inj.mp q)
theorem own_ilt {x y : Int32} (h : x < y) : x.toInt < y.toInt := Int32.lt_iff_toInt_lt.mp h
theorem own_inl {x y : Int32} (h : ¬ (x < y)) : y.toInt ≤ x.toInt := Int.not_lt.mp fun q => h (Int32.lt_iff_toInt_lt.mpr q)
theorem own_ieq_of {x y : Int32} (h : x.toInt = y.toInt) : x = y := Int32.toInt_inj.mp h
theorem own_ine_of {x y : Int32} (h : x.toInt ≠ y.toInt) : ¬ (x = y) := fun q => h (by rw [q])
theorem own_ilt_of {x y : Int32} (h : x.toInt < y.toInt) : x < y := Int32.lt_iff_toInt_lt.mpr h
theorem own_inl_of {x y : Int32} (h : y.toInt ≤ x.toInt) : ¬ (x < y) := fun q => Int.not_lt.mpr h (Int32.lt_iff_toInt_lt.mp q)
theorem own_leq {x y : Int64} (h : x = y) : x.toInt = y.toInt := by rw [h]
theorem own_lne {x y : Int64} (h : ¬ (x = y)) : x.toInt ≠ y.toInt := fun q => h (Int64.toInt_inj.mp q)
theorem own_llt {x y : Int64} (h : x < y) : x.toInt < y.toInt := Int64.lt_iff_toInt_lt.mp h
theorem own_lnl {x y : Int64} (h : ¬ (x < y)) : y.toInt ≤ x.toInt := Int.not_lt.mp fun q => h (Int64.lt_iff_toInt_lt.mpr q)
theorem own_leq_of {x y : Int64} (h : x.toInt = y.toInt) : x = y := Int64.toInt_inj.mp h
theorem own_lne_of {x y : Int64} (h : x.toInt ≠ y.toInt) : ¬ (x = y) := fun q => h (by rw [q])
theorem own_llt_of {x y : Int64} (h : x.toInt < y.toInt) : x < y := Int64.lt_iff_toInt_lt.mpr h
theorem own_lnl_of {x y : Int64} (h : y.toInt ≤ x.toInt) : ¬ (x < y) := fun q => Int.not_lt.mpr h (Int64.lt_iff_toInt_lt.mp q)
variable {p : Program} {l : Launch} {e : Env} {R : Room} {s : State} {m : MethodId} {args : Array Value} {below : List Frame} {meth : Method} {c : Code} {T : State} {locs : List Loc} {cells slots : Nat} {Z : State} {a0 : Array Value} {h : Heap} {Q : Option Value → Heap → List Loc → Prop} {kc ks : Nat} {S S' : State}
/-- from S the invocation comes back; Q holds of what it returned, of the heap and of the places written -/
def own_Ends (p : Program) (e : Env) (below : List Frame) (s : State) (Q : Option Value → Heap → List Loc → Prop) (kc ks : Nat) (S : State) : Prop :=
  ∃ s₂ o, Steps p.tables e below S s₂ ∧ s₂.status = .running ∧ Ended s₂ below o ∧ ∃ v L, o = .returned v ∧ Q v s₂.heap L ∧ FrameEnd s o s₂ L kc ks
theorem own_up (st : ∀ t, Steps p.tables e below S' t → Steps p.tables e below S t) (k : own_Ends p e below s Q kc ks S') : own_Ends p e below s Q kc ks S := by
  obtain ⟨t, o, h1, h2⟩ := k
  exact ⟨t, o, st t h1, h2⟩
theorem own_met {y : MethodName} {code : ByteArray} {maxL : Nat} {ret : Option FieldType} {rm : Room} {as' : Array Value} {ws : List Jvm.Cond} {L0 : Array Slot}
    (hpl : plainFor y = true) (hef : ∀ m, entryFrame m as' maxL = mkF m 0 L0 [])
    (body : ∀ (p : Program) (e : Env) (s : State) (m : MethodId) (below : List Frame) (meth : Method) (c : Code) (T : State), p.tables.exec = Jvm.exec → c.code = code → c.maxLocals = maxL → s.vm.findClass y.cls = some m.cls → meth.name = y.name → meth.sig.returnType = ret → meth.locks = false → Z.Warmed39 s.vm → T.heap = h → Stand p l e rm s m as' below meth c T [] 0 0 → own_Ends p e below s Q rm.cells rm.slots (T.setTop (mkF m 0 L0 []))) :
    MetFree l y (head1 (Jvm.Cond.code y code maxL ret :: ws) rm) (fun a U => a = as' ∧ Z.Warmed39 U.vm ∧ U.heap = h) (fun _ _ _ _ _ => True) (fun _ U o U' => ∃ v L, o = .returned v ∧ Q v U'.heap L ∧ FrameEnd U o U' L rm.cells rm.slots) := by
  refine MetFree.of_bodySF hpl hisR ?_
  intro p e s m args below meth c s₁ Bd hml hP hK
  obtain ⟨rfl, hZ, hh⟩ := hP
  rw [hef m]
  exact body p e s m below meth c s₁ Bd.exec Bd.bytes hml (findClass_of_methodNamed Bd.named) (name_of_methodNamed Bd.named Bd.method).1 Bd.returns (BodyLoose.notSynchronized Bd) hZ (by rw [← hh, Bd.state]; rfl) (Stand.of_body Bd)
/-! returns -/
theorem own_iret (X : Stand p l e R s m args below meth c T locs cells slots) (hx : p.tables.exec = Jvm.exec) {pc : Nat} {Ls : Array Slot} {z : Int32} {rest : List Value} (hret : meth.sig.returnType = some .int) (hd : decode c.code pc = .ok (.ireturn, 1)) {fs : List Frame}
    (hl : ∀ (f : JFrame) (acts : List Action), f.method = m → f.locked = none → f.entered = [] → (doReturn e (T.setTop f) acts (some (.int z))).1 = T.setFrames fs) : Steps p.tables e below (T.setTop (mkF m pc Ls (.int z :: rest))) (T.setFrames fs) :=
  retOut X hx hret rfl (Or.inl ⟨rfl, Or.inl rfl, _, rfl⟩) hd hl
theorem own_retI (X : Stand p l e R s m args below meth c T locs cells slots) (hx : p.tables.exec = Jvm.exec) (hlk : meth.locks = false) (hret : meth.sig.returnType = some .int) {pc : Nat} {Ls : Array Slot} {z : Int32} {rest : List Value} (hd : decode c.code pc = .ok (.ireturn, 1)) (hc : cells ≤ kc) (hs : slots ≤ ks) (hq : Q (some (.int z)) T.heap locs) :
    own_Ends p e below s Q kc ks (T.setTop (mkF m pc Ls (.int z :: rest))) := by
  obtain ⟨fs, hr, hrun, hended, hW, hsame⟩ := X.leave (v := some (.int z)) (fun q => by rw [hret] at q; cases q) hlk
  exact ⟨_, _, own_iret X hx hret hd hr, hrun, hended, _, _, rfl, hq, ⟨_, rfl⟩, hW, hsame.mono hc hs⟩
theorem own_retN (X : Stand p l e R s m args below meth c T locs cells slots) (hx : p.tables.exec = Jvm.exec) (hlk : meth.locks = false) {t : FieldType} (hret : meth.sig.returnType = some t) (ht : t = .boolean ∨ t = .byte ∨ t = .char ∨ t = .short) {pc : Nat} {Ls : Array Slot} {z z' : Int32} {rest : List Value} (hn : nar t z = z') (hd : decode c.code pc = .ok (.ireturn, 1)) (hc : cells ≤ kc) (hs : slots ≤ ks) (hq : Q (some (.int z')) T.heap locs) :
    own_Ends p e below s Q kc ks (T.setTop (mkF m pc Ls (.int z :: rest))) := by
  subst hn
  obtain ⟨fs, hr, hrun, hended, hW, hsame⟩ := X.leave (v := some (.int (nar t z))) (fun q => by rw [hret] at q; cases q) hlk
  exact ⟨_, _, retN X hx hret ht hd hr, hrun, hended, _, _, rfl, hq, ⟨_, rfl⟩, hW, hsame.mono hc hs⟩
theorem own_retL (X : Stand p l e R s m args below meth c T locs cells slots) (hx : p.tables.exec = Jvm.exec) (hlk : meth.locks = false) (hret : meth.sig.returnType = some .long) {pc : Nat} {Ls : Array Slot} {z : Int64} {rest : List Value} (hd : decode c.code pc = .ok (.lreturn, 1)) (hc : cells ≤ kc) (hs : slots ≤ ks) (hq : Q (some (.long z)) T.heap locs) :
    own_Ends p e below s Q kc ks (T.setTop (mkF m pc Ls (.long z :: rest))) := by
  obtain ⟨fs, hr, hrun, hended, hW, hsame⟩ := X.leave (v := some (.long z)) (fun q => by rw [hret] at q; cases q) hlk
  exact ⟨_, _, retOut X hx hret rfl (Or.inr (Or.inl ⟨rfl, rfl, _, rfl⟩)) hd hr, hrun, hended, _, _, rfl, hq, ⟨_, rfl⟩, hW, hsame.mono hc hs⟩
theorem own_retA (X : Stand p l e R s m args below meth c T locs cells slots) (hx : p.tables.exec = Jvm.exec) (hlk : meth.locks = false) {t : FieldType} (hret : meth.sig.returnType = some t) (ht : t.isReference = true) {pc : Nat} {Ls : Array Slot} {a : Addr} {rest : List Value} (hn : narrow t (.ref a) = .ref a) (hd : decode c.code pc = .ok (.areturn, 1)) (hc : cells ≤ kc) (hs : slots ≤ ks) (hq : Q (some (.ref a)) T.heap locs) :
    own_Ends p e below s Q kc ks (T.setTop (mkF m pc Ls (.ref a :: rest))) := by
  obtain ⟨fs, hr, hrun, hended, hW, hsame⟩ := X.leave (v := some (.ref a)) (fun q => by rw [hret] at q; cases q) hlk
  exact ⟨_, _, retOut X hx hret hn (Or.inr (Or.inr (Or.inr (Or.inr ⟨rfl, ht, rfl⟩)))) hd hr, hrun, hended, _, _, rfl, hq, ⟨_, rfl⟩, hW, hsame.mono hc hs⟩
theorem own_retV (X : Stand p l e R s m args below meth c T locs cells slots) (hx : p.tables.exec = Jvm.exec) (hlk : meth.locks = false) (hret : meth.sig.returnType = none) {pc : Nat} {Ls : Array Slot} (hd : decode c.code pc = .ok (.return_, 1)) (hc : cells ≤ kc) (hs : slots ≤ ks) (hq : Q none T.heap locs) :
    own_Ends p e below s Q kc ks (T.setTop (mkF m pc Ls [])) := by
  obtain ⟨fs, hr, hrun, hended, hW, hsame⟩ := X.leave (v := none) (fun _ => rfl) hlk
  exact ⟨_, _, X.returnOut hx hret hd hr, hrun, hended, _, _, rfl, hq, ⟨_, rfl⟩, hW, hsame.mono hc hs⟩
/-! calls -/
theorem own_callS (X : Stand p l e R s m args below meth c T locs cells slots) (hx : p.tables.exec = Jvm.exec) (hZ : Z.Warmed39 s.vm) {own : String} {index : Nat} {y : MethodName} {bytes : ByteArray} {maxL : Nat} {ret : Option FieldType} {rm : Room} {as' : Array Value} {Qc : Option Value → Heap → List Loc → Prop}
    (hown : s.vm.findClass own = some m.cls) (w1 : (Jvm.Cond.methodLink own index y).before a0 Z = true) (w2 : (Jvm.Cond.static y).before a0 Z = true) (w3 : (Jvm.Cond.initialized y.cls).before a0 Z = true) (w4 : (Jvm.Cond.code y bytes maxL ret).before a0 Z = true)
    (hy : y.cls ≠ "java/lang/invoke/MethodHandle" ∧ y.cls ≠ "java/lang/invoke/VarHandle") (eT : T.heap = h)
    (hM : MetFree l y (head1 [Jvm.Cond.code y bytes maxL ret] rm) (fun a U => a = as' ∧ Z.Warmed39 U.vm ∧ U.heap = h) (fun _ _ _ _ _ => True) (fun _ U o U' => ∃ v L, o = .returned v ∧ Qc v U'.heap L ∧ FrameEnd U o U' L rm.cells rm.slots))
    (W : Nat) {g : JFrame} (argsL rest : List Value) (hdg : decode c.code g.pc = .ok (.invokestatic index, 3)) (hlen : ∀ sig, parseMethodDescriptor y.desc = some sig → argsL.length = sig.parameters.length)
    (hf : rm.frames + 1 ≤ R.frames) (hl : W + (maxL + 11) + rm.locals ≤ R.locals) (hc : cells + rm.cells ≤ R.cells) (hs : slots + rm.slots ≤ R.slots)
    (hg : g.method = m) (hsize : g.locals.size = c.maxLocals) (hstack : g.stack = argsL.reverse ++ rest) (hW : 2 * g.monitorRoom + (rest.map fun v => v.category).sum ≤ W) (has : argsL.toArray = as')
    (k : ∀ T' L v, Stand p l e R s m args below meth c T' (locs ++ L) (cells + rm.cells) (slots + rm.slots) → Qc v T'.heap L → own_Ends p e below s Q kc ks (T'.setTop { g with pc := g.pc + 3, stack := v.toList ++ rest })) :
    own_Ends p e below s Q kc ks (T.setTop g) := by
  subst has
  obtain ⟨v, _, ⟨T', L', c', n'⟩, -, X', ⟨L, hQ, l1, y1, z1⟩, st⟩ := Jvm.LawKit.callS X hx hown (mvT hZ w1) (mvT hZ w2) (mvT hZ w3) (mvT hZ w4) hy (backOf (W := W) hM hZ w4 w3 hf hl) hg hsize hlen hstack hW hdg (fun _ _ => ⟨rfl, eT, hc, hs⟩)
  dsimp only [Pt.U, Pt.locs, Pt.cells, Pt.slots] at X' l1 y1 z1 st hQ
  subst l1 y1 z1
  exact own_up st (k T' L v X' hQ)
theorem own_callI (X : Stand p l e R s m args below meth c T locs cells slots) (hx : p.tables.exec = Jvm.exec) (hZ : Z.Warmed39 s.vm) {own : String} {index : Nat} {y : MethodName} {bytes : ByteArray} {maxL : Nat} {rm : Room} {as' : Array Value} {Qc : Option Value → Heap → List Loc → Prop}
    (hy1 : y.name = "<init>") (hown : s.vm.findClass own = some m.cls) (w1 : (Jvm.Cond.methodLink own index y).before a0 Z = true) (w2 : (Jvm.Cond.instanceMethod y).before a0 Z = true) (w3 : (Jvm.Cond.initialized y.cls).before a0 Z = true) (w4 : (Jvm.Cond.code y bytes maxL none).before a0 Z = true)
    (hy : y.cls ≠ "java/lang/invoke/MethodHandle" ∧ y.cls ≠ "java/lang/invoke/VarHandle") (eT : T.heap = h)
    (hM : MetFree l y (head1 [Jvm.Cond.code y bytes maxL none] rm) (fun a U => a = as' ∧ Z.Warmed39 U.vm ∧ U.heap = h) (fun _ _ _ _ _ => True) (fun _ U o U' => ∃ v L, o = .returned v ∧ Qc v U'.heap L ∧ FrameEnd U o U' L rm.cells rm.slots))
    (W : Nat) {g : JFrame} (a : Addr) (argsL rest : List Value) (hdg : decode c.code g.pc = .ok (.invokespecial index, 3)) (hlen : ∀ sig, parseMethodDescriptor y.desc = some sig → argsL.length = sig.parameters.length)
    (hf : rm.frames + 1 ≤ R.frames) (hl : W + (maxL + 11) + rm.locals ≤ R.locals) (hc : cells + rm.cells ≤ R.cells) (hs : slots + rm.slots ≤ R.slots)
    (hg : g.method = m) (hsize : g.locals.size = c.maxLocals) (hstack : g.stack = argsL.reverse ++ .ref a :: rest) (hW : 2 * g.monitorRoom + (rest.map fun v => v.category).sum ≤ W) (has : (.ref a :: argsL).toArray = as')
    (k : ∀ T' L v, Stand p l e R s m args below meth c T' (locs ++ L) (cells + rm.cells) (slots + rm.slots) → Qc v T'.heap L → own_Ends p e below s Q kc ks (T'.setTop { g with pc := g.pc + 3, stack := v.toList ++ rest })) :
    own_Ends p e below s Q kc ks (T.setTop g) := by
  subst has
  obtain ⟨v, _, ⟨T', L', c', n'⟩, -, X', ⟨L, hQ, l1, y1, z1⟩, st⟩ := X.specialBack hx hy1 hown (mvT hZ w1) (mvT hZ w2) (mvT hZ w4) hy (backOf (W := W) hM hZ w4 w3 hf hl) hg hsize (Steps.refl _) hlen hstack hW hdg (fun _ _ => ⟨rfl, eT, hc, hs⟩)
  dsimp only [Pt.U, Pt.locs, Pt.cells, Pt.slots] at X' l1 y1 z1 st hQ
  subst l1 y1 z1
  exact own_up (fun t q => st.trans q) (k T' L v X' hQ)
theorem own_callV (X : Stand p l e R s m args below meth c T locs cells slots) (hx : p.tables.exec = Jvm.exec) (hZ : Z.Warmed39 s.vm) {own C : String} {index : Nat} {y : MethodName} {bytes : ByteArray} {maxL : Nat} {ret : Option FieldType} {rm : Room} {as' : Array Value} {Qc : Option Value → Heap → List Loc → Prop}
    (hown : s.vm.findClass own = some m.cls) (w1 : (Jvm.Cond.methodLink own index y).before a0 Z = true) (w2 : (Jvm.Cond.declares y).before a0 Z = true) (w5 : (Jvm.Cond.selects C y y).before a0 Z = true) (w6 : (Jvm.Cond.instanceMethod y).before a0 Z = true) (w3 : (Jvm.Cond.initialized y.cls).before a0 Z = true) (w4 : (Jvm.Cond.code y bytes maxL ret).before a0 Z = true)
    (hy : y.cls ≠ "java/lang/invoke/MethodHandle" ∧ y.cls ≠ "java/lang/invoke/VarHandle") (eT : T.heap = h)
    (hM : MetFree l y (head1 [Jvm.Cond.code y bytes maxL ret] rm) (fun a U => a = as' ∧ Z.Warmed39 U.vm ∧ U.heap = h) (fun _ _ _ _ _ => True) (fun _ U o U' => ∃ v L, o = .returned v ∧ Qc v U'.heap L ∧ FrameEnd U o U' L rm.cells rm.slots))
    (W : Nat) {g : JFrame} {a : Addr} (E : Exa Z h a C) (argsL rest : List Value) (hdg : decode c.code g.pc = .ok (.invokevirtual index, 3)) (hlen : ∀ sig, parseMethodDescriptor y.desc = some sig → argsL.length = sig.parameters.length)
    (hf : rm.frames + 1 ≤ R.frames) (hl : W + (maxL + 11) + rm.locals ≤ R.locals) (hc : cells + rm.cells ≤ R.cells) (hs : slots + rm.slots ≤ R.slots)
    (hg : g.method = m) (hsize : g.locals.size = c.maxLocals) (hstack : g.stack = argsL.reverse ++ .ref a :: rest) (hW : 2 * g.monitorRoom + (rest.map fun v => v.category).sum ≤ W) (has : (.ref a :: argsL).toArray = as')
    (k : ∀ T' L v, Stand p l e R s m args below meth c T' (locs ++ L) (cells + rm.cells) (slots + rm.slots) → Qc v T'.heap L → own_Ends p e below s Q kc ks (T'.setTop { g with pc := g.pc + 3, stack := v.toList ++ rest })) :
    own_Ends p e below s Q kc ks (T.setTop g) := by
  subst has
  obtain ⟨cq, kq, qa, qb, qc⟩ := isOf hZ eT E
  obtain ⟨v, _, ⟨T', L', c', n'⟩, -, X', ⟨L, hQ, l1, y1, z1⟩, st⟩ := X.virtualBack hx hown (mvT hZ w1) (mvT hZ w2) (notFace_of_selects (args := #[]) (mvT hZ w5)) (mvT hZ w5) (mvT hZ w6) hy (backOf (W := W) hM hZ w4 w3 hf hl) qa qc hg hsize (Steps.refl _) hlen hstack hW hdg (fun _ _ => ⟨rfl, eT, hc, hs⟩)
  dsimp only [Pt.U, Pt.locs, Pt.cells, Pt.slots] at X' l1 y1 z1 st hQ
  subst l1 y1 z1
  exact own_up (fun t q => st.trans q) (k T' L v X' hQ)
/-- the link names y in a class that inherits it from 'owner' -/
theorem own_callU (X : Stand p l e R s m args below meth c T locs cells slots) (hx : p.tables.exec = Jvm.exec) (hZ : Z.Warmed39 s.vm) {own C owner : String} {index : Nat} {x y : MethodName} {bytes : ByteArray} {maxL : Nat} {ret : Option FieldType} {rm : Room} {as' : Array Value} {Qc : Option Value → Heap → List Loc → Prop}
    (hown : s.vm.findClass own = some m.cls) (w1 : (Jvm.Cond.methodLink own index x).before a0 Z = true) (w7 : (Jvm.Cond.sameMethod x.cls owner x.name x.desc).before a0 Z = true) (w2 : (Jvm.Cond.declares ⟨owner, x.name, x.desc⟩).before a0 Z = true) (w5 : (Jvm.Cond.selects C x y).before a0 Z = true) (w6 : (Jvm.Cond.instanceMethod y).before a0 Z = true) (w3 : (Jvm.Cond.initialized y.cls).before a0 Z = true) (w4 : (Jvm.Cond.code y bytes maxL ret).before a0 Z = true)
    (hy : owner ≠ "java/lang/invoke/MethodHandle" ∧ owner ≠ "java/lang/invoke/VarHandle") (eT : T.heap = h)
    (hM : MetFree l y (head1 [Jvm.Cond.code y bytes maxL ret] rm) (fun a U => a = as' ∧ Z.Warmed39 U.vm ∧ U.heap = h) (fun _ _ _ _ _ => True) (fun _ U o U' => ∃ v L, o = .returned v ∧ Qc v U'.heap L ∧ FrameEnd U o U' L rm.cells rm.slots))
    (W : Nat) {g : JFrame} {a : Addr} (E : Exa Z h a C) (argsL rest : List Value) (hdg : decode c.code g.pc = .ok (.invokevirtual index, 3)) (hlen : ∀ sig, parseMethodDescriptor x.desc = some sig → argsL.length = sig.parameters.length)
    (hf : rm.frames + 1 ≤ R.frames) (hl : W + (maxL + 11) + rm.locals ≤ R.locals) (hc : cells + rm.cells ≤ R.cells) (hs : slots + rm.slots ≤ R.slots)
    (hg : g.method = m) (hsize : g.locals.size = c.maxLocals) (hstack : g.stack = argsL.reverse ++ .ref a :: rest) (hW : 2 * g.monitorRoom + (rest.map fun v => v.category).sum ≤ W) (has : (.ref a :: argsL).toArray = as')
    (k : ∀ T' L v, Stand p l e R s m args below meth c T' (locs ++ L) (cells + rm.cells) (slots + rm.slots) → Qc v T'.heap L → own_Ends p e below s Q kc ks (T'.setTop { g with pc := g.pc + 3, stack := v.toList ++ rest })) :
    own_Ends p e below s Q kc ks (T.setTop g) := by
  subst has
  obtain ⟨cq, kq, qa, qb, qc⟩ := isOf hZ eT E
  obtain ⟨v, _, ⟨T', L', c', n'⟩, -, X', ⟨L, hQ, l1, y1, z1⟩, st⟩ := X.virtualBackUp hx hown (mvT hZ w1) (mvT hZ w7) (mvT hZ w2) hy (mvT hZ w5) (mvT hZ w6) (backOf (W := W) hM hZ w4 w3 hf hl) qa qc hg hsize (Steps.refl _) hlen hstack hW hdg (fun _ _ => ⟨rfl, eT, hc, hs⟩)
  dsimp only [Pt.U, Pt.locs, Pt.cells, Pt.slots] at X' l1 y1 z1 st hQ
  subst l1 y1 z1
  exact own_up (fun t q => st.trans q) (k T' L v X' hQ)
theorem own_init (X : Stand p l e R s m args below meth c T locs cells slots) (hx : p.tables.exec = Jvm.exec) (hZ : Z.Warmed39 s.vm) {own : String} {idx : Nat} (hown : s.vm.findClass own = some m.cls) (w1 : (Jvm.Cond.methodLink own idx Lib.objectInit).before a0 Z = true) (w2 : (Jvm.Cond.instanceMethod Lib.objectInit).before a0 Z = true)
    (w3 : (Jvm.Cond.code Lib.objectInit ⟨#[0xb1]⟩ 1 none).before a0 Z = true) (eT : T.heap = h) (W : Nat) {g g' : JFrame} {a : Addr} {rest : List Value} (hd : decode c.code g.pc = .ok (.invokespecial idx, 3)) (hf : 1 ≤ R.frames) (hl : W + 12 ≤ R.locals)
    (hg : g.method = m) (hsize : g.locals.size = c.maxLocals) (hs : g.stack = .ref a :: rest) (hW : 2 * g.monitorRoom + (rest.map fun v => v.category).sum ≤ W) (hg' : { g with pc := g.pc + 3, stack := rest } = g')
    (k : ∀ T', Stand p l e R s m args below meth c T' locs cells slots → T'.heap = h → own_Ends p e below s Q kc ks (T'.setTop g')) : own_Ends p e below s Q kc ks (T.setTop g) := by
  subst hg'
  obtain ⟨T', X', e', st⟩ := initO X hx hZ hown w1 w2 w3 eT hg hsize hs hd hf hW hl
  exact own_up st (k T' X' e')
/-! the heap -/
theorem own_new (X : Stand p l e R s m args below meth c T locs cells slots) (hx : p.tables.exec = Jvm.exec) (hZ : Z.Warmed39 s.vm) {own C : String} {index n : Nat} (hown : s.vm.findClass own = some m.cls) (w : (Jvm.Cond.classLink own index C).before a0 Z = true) (wi : (Jvm.Cond.instantiable C n).before a0 Z = true) (wz : (Jvm.Cond.initialized C).before a0 Z = true) (eT : T.heap = h)
    {g : JFrame} (hg : g.method = m) (hd : decode c.code g.pc = .ok (.new index, 3)) (hc : cells + 1 ≤ R.cells) (hl : slots + n ≤ R.slots)
    (k : ∀ T' h' b, b = h.size → Stand p l e R s m args below meth c T' locs (cells + 1) (slots + n) → T'.heap = h' → Ext h h' → Exa Z h' b C → (∀ {O nm d : String} {ty : FieldType}, Laid Z a0 C O nm d → parseFieldDescriptor d = some ty → Fld Z h' b O nm d (defaultValue ty)) → own_Ends p e below s Q kc ks (T'.setTop { g with pc := g.pc + 3, stack := .ref b :: g.stack })) : own_Ends p e below s Q kc ks (T.setTop g) := by
  obtain ⟨T', h', X', e', E, A, D, -, st⟩ := newO X hx hZ hown w wi wz eT hg hd hc hl
  exact own_up st (k T' h' _ rfl X' e' E A D)
theorem own_get (X : Stand p l e R s m args below meth c T locs cells slots) (hx : p.tables.exec = Jvm.exec) (hZ : Z.Warmed39 s.vm) {own R0 O n d : String} {index : Nat} (hown : s.vm.findClass own = some m.cls) (w : (Jvm.Cond.fieldLink own index R0 n d).before a0 Z = true) (via : Via Z R0 O n d)
    (eT : T.heap = h) {a : Addr} {v : Value} (F : Fld Z h a O n d v) {g g' : JFrame} {rest : List Value} (hd : decode c.code g.pc = .ok (.getfield index, 3)) (hg : g.method = m) (hs : g.stack = .ref a :: rest) (hg' : { g with pc := g.pc + 3, stack := v :: rest } = g')
    (k : ∀ T', Stand p l e R s m args below meth c T' locs cells slots → T'.heap = h → own_Ends p e below s Q kc ks (T'.setTop g')) : own_Ends p e below s Q kc ks (T.setTop g) := by
  subst hg'
  obtain ⟨T', X', e', st⟩ := getF X hx hZ hown (host := "") (Or.inl w) via eT F hg hs hd
  exact own_up st (k T' X' e')
theorem own_gets (X : Stand p l e R s m args below meth c T locs cells slots) (hx : p.tables.exec = Jvm.exec) (hZ : Z.Warmed39 s.vm) {own R0 O n d : String} {index : Nat} (hown : s.vm.findClass own = some m.cls) (w : (Jvm.Cond.fieldLink own index R0 n d).before a0 Z = true) (via : Via Z R0 O n d)
    (eT : T.heap = h) {v : Value} (F : Sta Z h O n d v) {g g' : JFrame} (hd : decode c.code g.pc = .ok (.getstatic index, 3)) (hg : g.method = m) (hg' : { g with pc := g.pc + 3, stack := v :: g.stack } = g')
    (k : ∀ T', Stand p l e R s m args below meth c T' locs cells slots → T'.heap = h → own_Ends p e below s Q kc ks (T'.setTop g')) : own_Ends p e below s Q kc ks (T.setTop g) := by
  subst hg'
  obtain ⟨T', X', e', st⟩ := getS2 X hx hZ hown (host := "") (Or.inl w) via eT F hg hd
  exact own_up st (k T' X' e')
theorem own_put (X : Stand p l e R s m args below meth c T locs cells slots) (hx : p.tables.exec = Jvm.exec) (hZ : Z.Warmed39 s.vm) {own R0 O n d C : String} {index kk : Nat} (ty : FieldType) (hown : s.vm.findClass own = some m.cls) (w : (Jvm.Cond.fieldLink own index R0 n d).before a0 Z = true) (via : Via Z R0 O n d)
    (eT : T.heap = h) {a : Addr} {v v' old : Value} (F : Fld Z h a O n d old) (E : Exa Z h a C) (L : (Jvm.Cond.lays C O n d).before a0 Z = true ∨ ((Jvm.Cond.laysFinal C O n d).before a0 Z = true ∧ own = O ∧ meth.name = "<init>")) (wi : (Jvm.Cond.instantiable C kk).before a0 Z = true)
    (hty : parseFieldDescriptor d = some ty) (hn : narrow ty v = v') (hf : fits ty v' = true) {g g' : JFrame} {rest : List Value} (hd : decode c.code g.pc = .ok (.putfield index, 3)) (hg : g.method = m) (hs : g.stack = v :: .ref a :: rest) (hg' : { g with pc := g.pc + 3, stack := rest } = g')
    (k : ∀ T' h', Stand p l e R s m args below meth c T' (locs ++ [⟨a, Jvm.RoadKit.slotOf Z O n d⟩]) cells slots → T'.heap = h' → Wr h h' a (Jvm.RoadKit.slotOf Z O n d) v' → own_Ends p e below s Q kc ks (T'.setTop g')) : own_Ends p e below s Q kc ks (T.setTop g) := by
  subst hg'
  obtain ⟨T', h', X', e', W, st⟩ := putFN X hx hZ hown w via eT F E L wi hty hn hf hg hs hd
  exact own_up st (k T' h' X' e' W)
theorem own_fr {k : Nat} {L : List Loc} {a : Addr} {sl : Nat} (N : Fr k L) (q : k ≤ a) : Fr k (L ++ [⟨a, sl⟩]) := N.app fun y hy => by cases List.mem_singleton.mp hy; exact q
/-! arrays: the list of the values -/
def own_Al (Z : State) (h : Heap) (a : Addr) (ty : FieldType) (vs : List Value) : Prop := ∃ c : Cell, Arr Z h a c ty ∧ c.slots.toList = vs ∧ vs.length < 2 ^ 31
theorem own_Al_lt {h : Heap} {a : Addr} {ty : FieldType} {vs : List Value} (A : own_Al Z h a ty vs) : a < h.size := by obtain ⟨c, A, -⟩ := A; exact A.lt
theorem own_Al_ext {h h' : Heap} {a : Addr} {ty : FieldType} {vs : List Value} (E : Ext h h') (A : own_Al Z h a ty vs) : own_Al Z h' a ty vs := by obtain ⟨c, A, r⟩ := A; exact ⟨c, A.ext E, r⟩
theorem own_Al_oth {h h' : Heap} {a b : Addr} {sl : Nat} {v : Value} {ty : FieldType} {vs : List Value} (W : Wr h h' b sl v) (A : own_Al Z h a ty vs) (ne : a ≠ b) : own_Al Z h' a ty vs := by obtain ⟨c, A, r⟩ := A; exact ⟨c, A.other W ne, r⟩
theorem own_Al_keep {h h' : Heap} {a : Addr} {ws : List Addr} {ty : FieldType} {vs : List Value} (K : Keep h h' ws) (A : own_Al Z h a ty vs) (ne : a ∉ ws) : own_Al Z h' a ty vs := by obtain ⟨c, A, r⟩ := A; exact ⟨c, ⟨K.2.1 a c A.1 ne, A.2⟩, r⟩
theorem own_nat {j : Int32} {i : Nat} (hj : j.toInt = i) : ¬ j < 0 ∧ j.toNatClampNeg = i := by
  have h0 : ¬ j < 0 := by rw [Int32.lt_iff_toInt_lt, hj]; have : (0 : Int32).toInt = 0 := rfl; omega
  refine ⟨h0, ?_⟩
  have := nat_of h0
  omega
theorem own_newa (X : Stand p l e R s m args below meth c T locs cells slots) (hx : p.tables.exec = Jvm.exec) (hZ : Z.Warmed39 s.vm) {aty : ArrayType} {ty : FieldType} (hty : newarray.typeOf aty = ty) (w : (Jvm.Cond.arrayClass ty).before a0 Z = true) (eT : T.heap = h) {g : JFrame} {z : Int32} (nn : Nat) {rest : List Value} (hd : decode c.code g.pc = .ok (.newarray aty, 2)) (hn : z.toInt = nn) (cap : Nat) (hcap : nn ≤ cap) (hb : cap * 8 ≤ 536870912) (hc : cells + 1 ≤ R.cells) (hl : slots + cap ≤ R.slots)
    (hg : g.method = m) (hs : g.stack = .int z :: rest)
    (k : ∀ T' h' b, b = h.size → Stand p l e R s m args below meth c T' locs (cells + 1) (slots + cap) → T'.heap = h' → Ext h h' → own_Al Z h' b ty (List.replicate nn (defaultValue ty)) → own_Ends p e below s Q kc ks (T'.setTop { g with pc := g.pc + 2, stack := .ref b :: rest })) : own_Ends p e below s Q kc ks (T.setTop g) := by
  subst hty
  obtain ⟨h0, h1⟩ := own_nat hn
  obtain ⟨T', h', cA, X', e', E, A, st⟩ := newP X hx hZ w eT hg hd hs h0 (cap := cap) (by omega) hb hc hl
  exact own_up st (k T' h' _ rfl X' e' E ⟨_, A, by simp [newA, h1], by simp; omega⟩)
theorem own_in {ty : FieldType} {vs : List Value} {cl : Cell} {j : Int32} {i : Nat} (hv : cl.slots.toList = vs) (hj : j.toInt = i) (hi : i < vs.length) : ¬ (j < 0 ∨ cl.slots.size ≤ j.toNatClampNeg) := by
  obtain ⟨h0, h1⟩ := own_nat hj
  subst hv
  rintro (q | q)
  · exact h0 q
  · rw [h1] at q; simp at hi; omega
theorem own_Al_set {h h' : Heap} {a : Addr} {cl : Cell} {ty : FieldType} {vs : List Value} {j : Int32} {i : Nat} {v : Value} (A : Arr Z h a cl ty) (hv : cl.slots.toList = vs) (hl : vs.length < 2 ^ 31) (hj : j.toInt = i) (W : Wr h h' a j.toNatClampNeg v) : own_Al Z h' a ty (vs.set i v) := by
  obtain ⟨h0, h1⟩ := own_nat hj
  rw [h1] at W
  exact ⟨_, A.same W, by simp [Cell.setSlot, hv], by simpa using hl⟩
theorem own_sti (X : Stand p l e R s m args below meth c T locs cells slots) (hx : p.tables.exec = Jvm.exec) (hZ : Z.Warmed39 s.vm) (eT : T.heap = h) {a : Addr} {vs : List Value} (A : own_Al Z h a .int vs) {j x : Int32} (i : Nat) {g g' : JFrame} {rest : List Value} (hd : decode c.code g.pc = .ok (.iastore, 1)) (hj : j.toInt = i) (hi : i < vs.length) (hg : g.method = m) (hs : g.stack = .int x :: .int j :: .ref a :: rest) (hg' : { g with pc := g.pc + 1, stack := rest } = g')
    (k : ∀ T' h', Stand p l e R s m args below meth c T' (locs ++ [⟨a, j.toNatClampNeg⟩]) cells slots → T'.heap = h' → Wr h h' a j.toNatClampNeg (.int x) → own_Al Z h' a .int (vs.set i (.int x)) → own_Ends p e below s Q kc ks (T'.setTop g')) : own_Ends p e below s Q kc ks (T.setTop g) := by
  subst hg'
  obtain ⟨cl, A, hv, hl⟩ := A
  obtain ⟨T', h', X', e', W, st⟩ := stI X hx hZ eT A (own_in (ty := .int) hv hj hi) hg hs hd
  exact own_up st (k T' h' X' e' W (own_Al_set A hv hl hj W))
theorem own_stj (X : Stand p l e R s m args below meth c T locs cells slots) (hx : p.tables.exec = Jvm.exec) (hZ : Z.Warmed39 s.vm) (eT : T.heap = h) {a : Addr} {vs : List Value} (A : own_Al Z h a .long vs) {j : Int32} {x : Int64} (i : Nat) {g g' : JFrame} {rest : List Value} (hd : decode c.code g.pc = .ok (.lastore, 1)) (hj : j.toInt = i) (hi : i < vs.length) (hg : g.method = m) (hs : g.stack = .long x :: .int j :: .ref a :: rest) (hg' : { g with pc := g.pc + 1, stack := rest } = g')
    (k : ∀ T' h', Stand p l e R s m args below meth c T' (locs ++ [⟨a, j.toNatClampNeg⟩]) cells slots → T'.heap = h' → Wr h h' a j.toNatClampNeg (.long x) → own_Al Z h' a .long (vs.set i (.long x)) → own_Ends p e below s Q kc ks (T'.setTop g')) : own_Ends p e below s Q kc ks (T.setTop g) := by
  subst hg'
  obtain ⟨cl, A, hv, hl⟩ := A
  obtain ⟨T', h', X', e', W, st⟩ := stJ X hx hZ eT A (own_in (ty := .long) hv hj hi) hg hs hd
  exact own_up st (k T' h' X' e' W (own_Al_set A hv hl hj W))
theorem own_stb (X : Stand p l e R s m args below meth c T locs cells slots) (hx : p.tables.exec = Jvm.exec) (hZ : Z.Warmed39 s.vm) (eT : T.heap = h) {a : Addr} {vs : List Value} (A : own_Al Z h a .byte vs) {j x : Int32} (i : Nat) {g g' : JFrame} {rest : List Value} (hd : decode c.code g.pc = .ok (.bastore, 1)) (hj : j.toInt = i) (hi : i < vs.length) (hg : g.method = m) (hs : g.stack = .int x :: .int j :: .ref a :: rest) (hg' : { g with pc := g.pc + 1, stack := rest } = g')
    (k : ∀ T' h', Stand p l e R s m args below meth c T' (locs ++ [⟨a, j.toNatClampNeg⟩]) cells slots → T'.heap = h' → Wr h h' a j.toNatClampNeg (.int (nar .byte x)) → own_Al Z h' a .byte (vs.set i (.int (nar .byte x))) → own_Ends p e below s Q kc ks (T'.setTop g')) : own_Ends p e below s Q kc ks (T.setTop g) := by
  subst hg'
  obtain ⟨cl, A, hv, hl⟩ := A
  obtain ⟨T', h', X', e', W, st⟩ := stB X hx hZ eT A (own_in (ty := .byte) hv hj hi) hg hs hd
  exact own_up st (k T' h' X' e' W (own_Al_set A hv hl hj W))
theorem own_at {vs : List Value} {cl : Cell} {j : Int32} {i : Nat} {v : Value} (hv : cl.slots.toList = vs) (hj : j.toInt = i) (hi : vs[i]? = some v) : cl.slots[j.toNatClampNeg]? = some v := by
  rw [(own_nat hj).2, ← Array.getElem?_toList, hv]; exact hi
theorem own_ldi (X : Stand p l e R s m args below meth c T locs cells slots) (hx : p.tables.exec = Jvm.exec) (hZ : Z.Warmed39 s.vm) (eT : T.heap = h) {a : Addr} {vs : List Value} (A : own_Al Z h a .int vs) {j : Int32} {v : Value} (i : Nat) {g g' : JFrame} {rest : List Value} (hd : decode c.code g.pc = .ok (.iaload, 1)) (hj : j.toInt = i) (hi : vs[i]? = some v) (hg : g.method = m) (hs : g.stack = .int j :: .ref a :: rest) (hg' : { g with pc := g.pc + 1, stack := v :: rest } = g')
    (k : own_Ends p e below s Q kc ks (T.setTop g')) : own_Ends p e below s Q kc ks (T.setTop g) := by
  subst hg'
  obtain ⟨cl, A, hv, hl⟩ := A
  exact own_up (fun t => X.iaload hx (by rw [eT]; exact A.1) (State.isArrayOf_alike hZ.alike A.2.1) A.2.2 (own_in (ty := .int) hv hj (List.getElem?_eq_some_iff.mp hi).1) (own_at hv hj hi) hg hs hd t) k
theorem own_ldj (X : Stand p l e R s m args below meth c T locs cells slots) (hx : p.tables.exec = Jvm.exec) (hZ : Z.Warmed39 s.vm) (eT : T.heap = h) {a : Addr} {vs : List Value} (A : own_Al Z h a .long vs) {j : Int32} {v : Value} (i : Nat) {g g' : JFrame} {rest : List Value} (hd : decode c.code g.pc = .ok (.laload, 1)) (hj : j.toInt = i) (hi : vs[i]? = some v) (hg : g.method = m) (hs : g.stack = .int j :: .ref a :: rest) (hg' : { g with pc := g.pc + 1, stack := v :: rest } = g')
    (k : own_Ends p e below s Q kc ks (T.setTop g')) : own_Ends p e below s Q kc ks (T.setTop g) := by
  subst hg'
  obtain ⟨cl, A, hv, hl⟩ := A
  exact own_up (fun t => X.laload hx (by rw [eT]; exact A.1) (State.isArrayOf_alike hZ.alike A.2.1) A.2.2 (own_in (ty := .long) hv hj (List.getElem?_eq_some_iff.mp hi).1) (own_at hv hj hi) hg hs hd t) k
theorem own_ldb (X : Stand p l e R s m args below meth c T locs cells slots) (hx : p.tables.exec = Jvm.exec) (hZ : Z.Warmed39 s.vm) (eT : T.heap = h) {a : Addr} {vs : List Value} (A : own_Al Z h a .byte vs) {j : Int32} {v : Value} (i : Nat) {g g' : JFrame} {rest : List Value} (hd : decode c.code g.pc = .ok (.baload, 1)) (hj : j.toInt = i) (hi : vs[i]? = some v) (hg : g.method = m) (hs : g.stack = .int j :: .ref a :: rest) (hg' : { g with pc := g.pc + 1, stack := v :: rest } = g')
    (k : own_Ends p e below s Q kc ks (T.setTop g')) : own_Ends p e below s Q kc ks (T.setTop g) := by
  subst hg'
  obtain ⟨cl, A, hv, hl⟩ := A
  exact own_up (fun t => X.baloadBytes hx (by rw [eT]; exact A.1) (State.isArrayOf_alike hZ.alike A.2.1) A.2.2 (own_in (ty := .byte) hv hj (List.getElem?_eq_some_iff.mp hi).1) (own_at hv hj hi) hg hs hd t) k
theorem own_len (X : Stand p l e R s m args below meth c T locs cells slots) (hx : p.tables.exec = Jvm.exec) (hZ : Z.Warmed39 s.vm) (eT : T.heap = h) {a : Addr} {ty : FieldType} {vs : List Value} (A : own_Al Z h a ty vs) {g g' : JFrame} {rest : List Value} (z : Int32) (hd : decode c.code g.pc = .ok (.arraylength, 1)) (hz : z.toInt = vs.length) (hg : g.method = m) (hs : g.stack = .ref a :: rest) (hg' : { g with pc := g.pc + 1, stack := .int z :: rest } = g')
    (k : own_Ends p e below s Q kc ks (T.setTop g')) : own_Ends p e below s Q kc ks (T.setTop g) := by
  subst hg'
  obtain ⟨cl, A, hv, hl⟩ := A
  have q : cl.slots.size.toInt32 = z := by
    apply Int32.toInt_inj.mp
    have h2 : cl.slots.size = vs.length := by rw [← hv]; simp
    rw [hz, h2, len_toInt hl]
  exact own_up (fun t => X.arraylength hx (by rw [eT]; exact A.1) (State.isArrayOf_alike hZ.alike A.2.1) hg hs hd t) (by rw [q]; exact k)
end Own
def own_f1 (x : Int64) : Int64 := (x ^^^ XT.ushrL x 30) * (-4658895280553007687)
def own_f2 (x : Int64) : Int64 := (x ^^^ XT.ushrL x 27) * (-7723592293110705685)
def own_f3 (x : Int64) : Int64 := x ^^^ XT.ushrL x 31
def own_mix64 (x : Int64) : Int64 := own_f3 (own_f2 (own_f1 x))
def own_g3 (x : Int64) : Int64 := ((x ^^^ XT.ushrL x 31) ^^^ XT.ushrL x 62) * 3573116690164977347
def own_g2 (x : Int64) : Int64 := ((x ^^^ XT.ushrL x 27) ^^^ XT.ushrL x 54) * (-7575587736534282103)
def own_g1 (x : Int64) : Int64 := (x ^^^ XT.ushrL x 30) ^^^ XT.ushrL x 60
def own_unmix64 (x : Int64) : Int64 := own_g1 (own_g2 (own_g3 x))
theorem own_uL30 (x : Int64) : (XT.ushrL x 30).toBitVec = x.toBitVec >>> 30 := rfl
theorem own_uL60 (x : Int64) : (XT.ushrL x 60).toBitVec = x.toBitVec >>> 60 := rfl
theorem own_uL27 (x : Int64) : (XT.ushrL x 27).toBitVec = x.toBitVec >>> 27 := rfl
theorem own_uL54 (x : Int64) : (XT.ushrL x 54).toBitVec = x.toBitVec >>> 54 := rfl
theorem own_uL31 (x : Int64) : (XT.ushrL x 31).toBitVec = x.toBitVec >>> 31 := rfl
theorem own_uL62 (x : Int64) : (XT.ushrL x 62).toBitVec = x.toBitVec >>> 62 := rfl
theorem own_bits (y : BitVec 64) (k : Nat) (hk : 64 ≤ 3 * k) : ((y ^^^ (y >>> k)) ^^^ ((y ^^^ (y >>> k)) >>> k)) ^^^ ((y ^^^ (y >>> k)) >>> (2 * k)) = y := by
  apply BitVec.eq_of_getLsbD_eq
  intro i hi
  have q : y.getLsbD (k + (2 * k + i)) = false := BitVec.getLsbD_of_ge _ _ (by omega)
  have q2 : k + (k + i) = 2 * k + i := by omega
  simp only [BitVec.getLsbD_xor, BitVec.getLsbD_ushiftRight, q, q2]
  cases y.getLsbD i <;> cases y.getLsbD (k + i) <;> cases y.getLsbD (2 * k + i) <;> rfl
theorem own_b30 (x : Int64) : own_g1 (x ^^^ XT.ushrL x 30) = x := by
  apply Int64.toBitVec_inj.mp
  unfold own_g1
  rw [Int64.toBitVec_xor, Int64.toBitVec_xor, own_uL60, own_uL30, Int64.toBitVec_xor, own_uL30]
  exact own_bits x.toBitVec 30 (by decide)
theorem own_b27 (x : Int64) : (((x ^^^ XT.ushrL x 27) ^^^ XT.ushrL (x ^^^ XT.ushrL x 27) 27) ^^^ XT.ushrL (x ^^^ XT.ushrL x 27) 54) = x := by
  apply Int64.toBitVec_inj.mp
  rw [Int64.toBitVec_xor, Int64.toBitVec_xor, own_uL54, own_uL27, Int64.toBitVec_xor, own_uL27]
  exact own_bits x.toBitVec 27 (by decide)
theorem own_b31 (x : Int64) : (((x ^^^ XT.ushrL x 31) ^^^ XT.ushrL (x ^^^ XT.ushrL x 31) 31) ^^^ XT.ushrL (x ^^^ XT.ushrL x 31) 62) = x := by
  apply Int64.toBitVec_inj.mp
  rw [Int64.toBitVec_xor, Int64.toBitVec_xor, own_uL62, own_uL31, Int64.toBitVec_xor, own_uL31]
  exact own_bits x.toBitVec 31 (by decide)
theorem own_m1 (x : Int64) : (x * (-7723592293110705685)) * 3573116690164977347 = x := by
  rw [Int64.mul_assoc, show (-7723592293110705685 : Int64) * 3573116690164977347 = 1 from by decide, Int64.mul_one]
theorem own_m2 (x : Int64) : (x * (-4658895280553007687)) * (-7575587736534282103) = x := by
  rw [Int64.mul_assoc, show (-4658895280553007687 : Int64) * (-7575587736534282103) = 1 from by decide, Int64.mul_one]
theorem own_back64 (x : Int64) : own_unmix64 (own_mix64 x) = x := by
  unfold own_unmix64 own_mix64 own_g3 own_f3
  rw [own_b31]
  unfold own_f2 own_g2
  rw [own_m1, own_b27]
  unfold own_f1
  rw [own_m2, own_b30]
theorem own_pd0 : parseMethodDescriptor "(J)V" = some ⟨[.long], none⟩ := by decide +kernel
theorem own_pd1 : parseMethodDescriptor "()J" = some ⟨[], some .long⟩ := by decide +kernel
theorem own_pd2 : parseMethodDescriptor "(J)J" = some ⟨[.long], some .long⟩ := by decide +kernel
theorem d1_0 : decode prog_16_method_1_code 0 = .ok (.aload_n 0, 1) := by decide +kernel
theorem d1_1 : decode prog_16_method_1_code 1 = .ok (.invokespecial 1, 3) := by decide +kernel
theorem d1_4 : decode prog_16_method_1_code 4 = .ok (.aload_n 0, 1) := by decide +kernel
theorem d1_5 : decode prog_16_method_1_code 5 = .ok (.lload_n 1, 1) := by decide +kernel
theorem d1_6 : decode prog_16_method_1_code 6 = .ok (.putfield 7, 3) := by decide +kernel
theorem d1_9 : decode prog_16_method_1_code 9 = .ok (.return_, 1) := by decide +kernel
def own_R1 : Room := { frames := 1, cells := 0, slots := 0, locals := 12 }
theorem own_ef1 (oo : Addr) (p1 : Int64) (m : MethodId) : entryFrame m #[(.ref oo), (.long p1)] 3 = mkF m 0 #[.val (.ref oo), .val (.long p1), .second] [] := by first | (simp [entryFrame, mkF, argsToLocals, Value.category]; done) | rfl
def own_Q1 (Z : State) (oo : Addr) (p1 : Int64)  (h0 : Heap) (n0 : Nat) (v : Option Value) (h : Heap) (L : List Loc) : Prop := v = none ∧ Fr n0 L ∧ Keep h0 h [oo] ∧ Fld Z h oo "com/example/fudagumi/fudagumi/engine/Chance" "state" "J" (.long p1)
set_option maxRecDepth 65536 in
set_option maxHeartbeats 40000000 in
theorem rm1 (l : Launch) (Z : State) (a0 : Array Value) (hw : ∀ d ∈ tables_1, d.before a0 Z = true) (ws : List Jvm.Cond) (oo : Addr) (p1 : Int64)  (h0 : Heap) (n0 : Nat) (Z0 : n0 ≤ h0.size) (Fs : Fld Z h0 oo "com/example/fudagumi/fudagumi/engine/Chance" "state" "J" (.long (0 : Int64))) (Et : Exa Z h0 oo "com/example/fudagumi/fudagumi/engine/Chance") (gt : n0 ≤ oo) :
    MetFree l (⟨"com/example/fudagumi/fudagumi/engine/Chance", "<init>", "(J)V"⟩ : MethodName) (head1 (Jvm.Cond.code (⟨"com/example/fudagumi/fudagumi/engine/Chance", "<init>", "(J)V"⟩ : MethodName) prog_16_method_1_code 3 none :: ws) own_R1) (fun a U => a = #[(.ref oo), (.long p1)] ∧ Z.Warmed39 U.vm ∧ U.heap = h0) (fun _ _ _ _ _ => True) (fun _ U o U' => ∃ v L, o = .returned v ∧ own_Q1 Z oo p1 h0 n0 v U'.heap L ∧ FrameEnd U o U' L own_R1.cells own_R1.slots) := by
  refine own_met (Q := own_Q1 Z oo p1 h0 n0) (plainFor_of_name (by first | (simp [plainName, overriddenIn]; done) | decide +kernel)) (own_ef1 oo p1) ?_
  intro p e s m below meth c T0 hx hby hml hown hnm hret hlk hZ e0 X0
  have N0 := Fr.nil n0
  refine own_up (S' := T0.setTop (mkF m 1 #[.val (.ref oo), .val (.long p1), .second] [(.ref oo)])) (fun t kk => XS.aloadN X0.here hx rfl (hb hby d1_0) rfl rfl kk) ?_
  refine own_init X0 hx hZ hown (hw _ (List.mem_of_getElem? (i := 6) rfl)) (hw _ (List.mem_of_getElem? (i := 7) rfl)) (hw _ (List.mem_of_getElem? (i := 8) rfl)) e0 0 (g' := (mkF m 4 #[.val (.ref oo), .val (.long p1), .second] [])) (hb hby d1_1) (by decide) (by decide) rfl (by rw [hml]; rfl) rfl (by show 2 * 0 + _ ≤ _; exact Nat.le_of_eq rfl) rfl ?_
  intro T1 X1 e1
  refine own_up (S' := T1.setTop (mkF m 5 #[.val (.ref oo), .val (.long p1), .second] [(.ref oo)])) (fun t kk => XS.aloadN X1.here hx rfl (hb hby d1_4) rfl rfl kk) ?_
  refine own_up (S' := T1.setTop (mkF m 6 #[.val (.ref oo), .val (.long p1), .second] [(.long p1), (.ref oo)])) (fun t kk => XT.lloadN X1.here hx rfl (hb hby d1_5) rfl kk) ?_
  refine own_put X1 hx hZ .long hown (hw _ (List.mem_of_getElem? (i := 9) rfl)) Via.refl e1 Fs Et (Or.inl (hw _ (List.mem_of_getElem? (i := 10) rfl))) (hw _ (List.mem_of_getElem? (i := 1) rfl)) (by decide) (v' := (.long p1)) (rfl) (rfl) (g' := (mkF m 9 #[.val (.ref oo), .val (.long p1), .second] [])) (hb hby d1_6) rfl rfl rfl ?_
  intro T2 h2 X2 e2 W2
  have Zn3 := Nat.le_trans Z0 (Nat.le_of_eq W2.size.symm)
  have Et_4 := Et.wr W2
  have Kp5 := (Keep.refl h0 [oo]).wr W2 (Or.inl (List.mem_of_getElem? (i := 0) rfl))
  have N2 := Fr.snoc X2 N0 gt
  have Fstate_2 := Fs.same W2
  refine own_retV X2 hx hlk hret (hb hby d1_9) (by decide) (by decide) ?_
  show own_Q1 Z oo p1 h0 n0 _ T2.heap _
  rw [e2]
  exact ⟨rfl, N2, Kp5, Fstate_2⟩
theorem d2_0 : decode prog_16_method_4_code 0 = .ok (.aload_n 0, 1) := by decide +kernel
theorem d2_1 : decode prog_16_method_4_code 1 = .ok (.dup, 1) := by decide +kernel
theorem d2_2 : decode prog_16_method_4_code 2 = .ok (.getfield 7, 3) := by decide +kernel
theorem d2_5 : decode prog_16_method_4_code 5 = .ok (.ldc2_w 49, 3) := by decide +kernel
theorem d2_8 : decode prog_16_method_4_code 8 = .ok (.ladd, 1) := by decide +kernel
theorem d2_9 : decode prog_16_method_4_code 9 = .ok (.putfield 7, 3) := by decide +kernel
theorem d2_12 : decode prog_16_method_4_code 12 = .ok (.aload_n 0, 1) := by decide +kernel
theorem d2_13 : decode prog_16_method_4_code 13 = .ok (.getfield 7, 3) := by decide +kernel
theorem d2_16 : decode prog_16_method_4_code 16 = .ok (.lstore_n 1, 1) := by decide +kernel
theorem d2_17 : decode prog_16_method_4_code 17 = .ok (.lload_n 1, 1) := by decide +kernel
theorem d2_18 : decode prog_16_method_4_code 18 = .ok (.lload_n 1, 1) := by decide +kernel
theorem d2_19 : decode prog_16_method_4_code 19 = .ok (.bipush 30, 2) := by decide +kernel
theorem d2_21 : decode prog_16_method_4_code 21 = .ok (.lushr, 1) := by decide +kernel
theorem d2_22 : decode prog_16_method_4_code 22 = .ok (.lxor, 1) := by decide +kernel
theorem d2_23 : decode prog_16_method_4_code 23 = .ok (.ldc2_w 51, 3) := by decide +kernel
theorem d2_26 : decode prog_16_method_4_code 26 = .ok (.lmul, 1) := by decide +kernel
theorem d2_27 : decode prog_16_method_4_code 27 = .ok (.lstore_n 1, 1) := by decide +kernel
theorem d2_28 : decode prog_16_method_4_code 28 = .ok (.lload_n 1, 1) := by decide +kernel
theorem d2_29 : decode prog_16_method_4_code 29 = .ok (.lload_n 1, 1) := by decide +kernel
theorem d2_30 : decode prog_16_method_4_code 30 = .ok (.bipush 27, 2) := by decide +kernel
theorem d2_32 : decode prog_16_method_4_code 32 = .ok (.lushr, 1) := by decide +kernel
theorem d2_33 : decode prog_16_method_4_code 33 = .ok (.lxor, 1) := by decide +kernel
theorem d2_34 : decode prog_16_method_4_code 34 = .ok (.ldc2_w 53, 3) := by decide +kernel
theorem d2_37 : decode prog_16_method_4_code 37 = .ok (.lmul, 1) := by decide +kernel
theorem d2_38 : decode prog_16_method_4_code 38 = .ok (.lstore_n 1, 1) := by decide +kernel
theorem d2_39 : decode prog_16_method_4_code 39 = .ok (.lload_n 1, 1) := by decide +kernel
theorem d2_40 : decode prog_16_method_4_code 40 = .ok (.lload_n 1, 1) := by decide +kernel
theorem d2_41 : decode prog_16_method_4_code 41 = .ok (.bipush 31, 2) := by decide +kernel
theorem d2_43 : decode prog_16_method_4_code 43 = .ok (.lushr, 1) := by decide +kernel
theorem d2_44 : decode prog_16_method_4_code 44 = .ok (.lxor, 1) := by decide +kernel
theorem d2_45 : decode prog_16_method_4_code 45 = .ok (.lreturn, 1) := by decide +kernel
def own_R2 : Room := { frames := 0, cells := 0, slots := 0, locals := 0 }
theorem own_ef2 (oo : Addr) (m : MethodId) : entryFrame m #[(.ref oo)] 3 = mkF m 0 #[.val (.ref oo), .unset, .unset] [] := by first | (simp [entryFrame, mkF, argsToLocals, Value.category]; done) | rfl
def own_Q2 (Z : State) (oo : Addr) (w0 : Int64) (h0 : Heap) (n0 : Nat) (v : Option Value) (h : Heap) (L : List Loc) : Prop := v = some (.long (own_mix64 (w0 + (-7046029254386353131 : Int64)))) ∧ Fr n0 L ∧ Keep h0 h [oo] ∧ Fld Z h oo "com/example/fudagumi/fudagumi/engine/Chance" "state" "J" (.long (w0 + (-7046029254386353131 : Int64)))
set_option maxRecDepth 65536 in
set_option maxHeartbeats 40000000 in
theorem rm2 (l : Launch) (Z : State) (a0 : Array Value) (hw : ∀ d ∈ tables_1, d.before a0 Z = true) (ws : List Jvm.Cond) (oo : Addr) (w0 : Int64) (h0 : Heap) (n0 : Nat) (Z0 : n0 ≤ h0.size) (Fs : Fld Z h0 oo "com/example/fudagumi/fudagumi/engine/Chance" "state" "J" (.long w0)) (Et : Exa Z h0 oo "com/example/fudagumi/fudagumi/engine/Chance") (gt : n0 ≤ oo) :
    MetFree l (⟨"com/example/fudagumi/fudagumi/engine/Chance", "next", "()J"⟩ : MethodName) (head1 (Jvm.Cond.code (⟨"com/example/fudagumi/fudagumi/engine/Chance", "next", "()J"⟩ : MethodName) prog_16_method_4_code 3 (some .long) :: ws) own_R2) (fun a U => a = #[(.ref oo)] ∧ Z.Warmed39 U.vm ∧ U.heap = h0) (fun _ _ _ _ _ => True) (fun _ U o U' => ∃ v L, o = .returned v ∧ own_Q2 Z oo w0 h0 n0 v U'.heap L ∧ FrameEnd U o U' L own_R2.cells own_R2.slots) := by
  refine own_met (Q := own_Q2 Z oo w0 h0 n0) (plainFor_of_name (by first | (simp [plainName, overriddenIn]; done) | decide +kernel)) (own_ef2 oo) ?_
  intro p e s m below meth c T0 hx hby hml hown hnm hret hlk hZ e0 X0
  have N0 := Fr.nil n0
  refine own_up (S' := T0.setTop (mkF m 1 #[.val (.ref oo), .unset, .unset] [(.ref oo)])) (fun t kk => XS.aloadN X0.here hx rfl (hb hby d2_0) rfl rfl kk) ?_
  refine own_up (S' := T0.setTop (mkF m 2 #[.val (.ref oo), .unset, .unset] [(.ref oo), (.ref oo)])) (fun t kk => XS.dup X0.here hx rfl (hb hby d2_1) rfl rfl kk) ?_
  refine own_get X0 hx hZ hown (hw _ (List.mem_of_getElem? (i := 9) rfl)) Via.refl e0 Fs (g' := (mkF m 5 #[.val (.ref oo), .unset, .unset] [(.long w0), (.ref oo)])) (hb hby d2_2) rfl rfl rfl ?_
  intro T1 X1 e1
  refine own_up (S' := T1.setTop (mkF m 8 #[.val (.ref oo), .unset, .unset] [(.long (-7046029254386353131 : Int64)), (.long w0), (.ref oo)])) (fun t kk => X1.ldc2J hx hown (mvT hZ (hw _ (List.mem_of_getElem? (i := 16) rfl))) rfl (hb hby d2_5) kk) ?_
  refine own_up (S' := T1.setTop (mkF m 9 #[.val (.ref oo), .unset, .unset] [(.long (w0 + (-7046029254386353131 : Int64))), (.ref oo)])) (fun t kk => XT.ladd X1.here hx rfl (hb hby d2_8) rfl kk) ?_
  refine own_put X1 hx hZ .long hown (hw _ (List.mem_of_getElem? (i := 9) rfl)) Via.refl e1 Fs Et (Or.inl (hw _ (List.mem_of_getElem? (i := 10) rfl))) (hw _ (List.mem_of_getElem? (i := 1) rfl)) (by decide) (v' := (.long (w0 + (-7046029254386353131 : Int64)))) (rfl) (rfl) (g' := (mkF m 12 #[.val (.ref oo), .unset, .unset] [])) (hb hby d2_9) rfl rfl rfl ?_
  intro T2 h2 X2 e2 W2
  have Zn3 := Nat.le_trans Z0 (Nat.le_of_eq W2.size.symm)
  have Et_4 := Et.wr W2
  have Kp5 := (Keep.refl h0 [oo]).wr W2 (Or.inl (List.mem_of_getElem? (i := 0) rfl))
  have N2 := Fr.snoc X2 N0 gt
  have Fstate_2 := Fs.same W2
  refine own_up (S' := T2.setTop (mkF m 13 #[.val (.ref oo), .unset, .unset] [(.ref oo)])) (fun t kk => XS.aloadN X2.here hx rfl (hb hby d2_12) rfl rfl kk) ?_
  refine own_get X2 hx hZ hown (hw _ (List.mem_of_getElem? (i := 9) rfl)) Via.refl e2 Fstate_2 (g' := (mkF m 16 #[.val (.ref oo), .unset, .unset] [(.long (w0 + (-7046029254386353131 : Int64)))])) (hb hby d2_13) rfl rfl rfl ?_
  intro T6 X6 e6
  obtain ⟨a1, h_a1⟩ : ∃ z : Int64, z = (w0 + (-7046029254386353131 : Int64)) := ⟨_, rfl⟩
  rw [← h_a1]
  refine own_up (S' := T6.setTop (mkF m 17 #[.val (.ref oo), .val (.long a1), .second] [])) (fun t kk => XT.lstoreN X6.here hx rfl (hb hby d2_16) rfl (l' := #[.val (.ref oo), .val (.long a1), .second]) rfl kk) ?_
  refine own_up (S' := T6.setTop (mkF m 18 #[.val (.ref oo), .val (.long a1), .second] [(.long a1)])) (fun t kk => XT.lloadN X6.here hx rfl (hb hby d2_17) rfl kk) ?_
  refine own_up (S' := T6.setTop (mkF m 19 #[.val (.ref oo), .val (.long a1), .second] [(.long a1), (.long a1)])) (fun t kk => XT.lloadN X6.here hx rfl (hb hby d2_18) rfl kk) ?_
  refine own_up (S' := T6.setTop (mkF m 21 #[.val (.ref oo), .val (.long a1), .second] [(.int (30 : Int32)), (.long a1), (.long a1)])) (fun t kk => XT.bipushV X6.here hx rfl (30 : Int32) (hb hby d2_19) rfl kk) ?_
  refine own_up (S' := T6.setTop (mkF m 22 #[.val (.ref oo), .val (.long a1), .second] [(.long (XT.ushrL a1 (30 : Int32))), (.long a1)])) (fun t kk => XT.lushr X6.here hx rfl (hb hby d2_21) rfl kk) ?_
  refine own_up (S' := T6.setTop (mkF m 23 #[.val (.ref oo), .val (.long a1), .second] [(.long (a1 ^^^ (XT.ushrL a1 (30 : Int32))))])) (fun t kk => XT.lxor X6.here hx rfl (hb hby d2_22) rfl kk) ?_
  refine own_up (S' := T6.setTop (mkF m 26 #[.val (.ref oo), .val (.long a1), .second] [(.long (-4658895280553007687 : Int64)), (.long (a1 ^^^ (XT.ushrL a1 (30 : Int32))))])) (fun t kk => X6.ldc2J hx hown (mvT hZ (hw _ (List.mem_of_getElem? (i := 17) rfl))) rfl (hb hby d2_23) kk) ?_
  refine own_up (S' := T6.setTop (mkF m 27 #[.val (.ref oo), .val (.long a1), .second] [(.long ((a1 ^^^ (XT.ushrL a1 (30 : Int32))) * (-4658895280553007687 : Int64)))])) (fun t kk => XT.lmul X6.here hx rfl (hb hby d2_26) rfl kk) ?_
  obtain ⟨a2, h_a2⟩ : ∃ z : Int64, z = ((a1 ^^^ (XT.ushrL a1 (30 : Int32))) * (-4658895280553007687 : Int64)) := ⟨_, rfl⟩
  rw [← h_a2]
  refine own_up (S' := T6.setTop (mkF m 28 #[.val (.ref oo), .val (.long a2), .second] [])) (fun t kk => XT.lstoreN X6.here hx rfl (hb hby d2_27) rfl (l' := #[.val (.ref oo), .val (.long a2), .second]) rfl kk) ?_
  refine own_up (S' := T6.setTop (mkF m 29 #[.val (.ref oo), .val (.long a2), .second] [(.long a2)])) (fun t kk => XT.lloadN X6.here hx rfl (hb hby d2_28) rfl kk) ?_
  refine own_up (S' := T6.setTop (mkF m 30 #[.val (.ref oo), .val (.long a2), .second] [(.long a2), (.long a2)])) (fun t kk => XT.lloadN X6.here hx rfl (hb hby d2_29) rfl kk) ?_
  refine own_up (S' := T6.setTop (mkF m 32 #[.val (.ref oo), .val (.long a2), .second] [(.int (27 : Int32)), (.long a2), (.long a2)])) (fun t kk => XT.bipushV X6.here hx rfl (27 : Int32) (hb hby d2_30) rfl kk) ?_
  refine own_up (S' := T6.setTop (mkF m 33 #[.val (.ref oo), .val (.long a2), .second] [(.long (XT.ushrL a2 (27 : Int32))), (.long a2)])) (fun t kk => XT.lushr X6.here hx rfl (hb hby d2_32) rfl kk) ?_
  refine own_up (S' := T6.setTop (mkF m 34 #[.val (.ref oo), .val (.long a2), .second] [(.long (a2 ^^^ (XT.ushrL a2 (27 : Int32))))])) (fun t kk => XT.lxor X6.here hx rfl (hb hby d2_33) rfl kk) ?_
  refine own_up (S' := T6.setTop (mkF m 37 #[.val (.ref oo), .val (.long a2), .second] [(.long (-7723592293110705685 : Int64)), (.long (a2 ^^^ (XT.ushrL a2 (27 : Int32))))])) (fun t kk => X6.ldc2J hx hown (mvT hZ (hw _ (List.mem_of_getElem? (i := 18) rfl))) rfl (hb hby d2_34) kk) ?_
  refine own_up (S' := T6.setTop (mkF m 38 #[.val (.ref oo), .val (.long a2), .second] [(.long ((a2 ^^^ (XT.ushrL a2 (27 : Int32))) * (-7723592293110705685 : Int64)))])) (fun t kk => XT.lmul X6.here hx rfl (hb hby d2_37) rfl kk) ?_
  obtain ⟨a3, h_a3⟩ : ∃ z : Int64, z = ((a2 ^^^ (XT.ushrL a2 (27 : Int32))) * (-7723592293110705685 : Int64)) := ⟨_, rfl⟩
  rw [← h_a3]
  refine own_up (S' := T6.setTop (mkF m 39 #[.val (.ref oo), .val (.long a3), .second] [])) (fun t kk => XT.lstoreN X6.here hx rfl (hb hby d2_38) rfl (l' := #[.val (.ref oo), .val (.long a3), .second]) rfl kk) ?_
  refine own_up (S' := T6.setTop (mkF m 40 #[.val (.ref oo), .val (.long a3), .second] [(.long a3)])) (fun t kk => XT.lloadN X6.here hx rfl (hb hby d2_39) rfl kk) ?_
  refine own_up (S' := T6.setTop (mkF m 41 #[.val (.ref oo), .val (.long a3), .second] [(.long a3), (.long a3)])) (fun t kk => XT.lloadN X6.here hx rfl (hb hby d2_40) rfl kk) ?_
  refine own_up (S' := T6.setTop (mkF m 43 #[.val (.ref oo), .val (.long a3), .second] [(.int (31 : Int32)), (.long a3), (.long a3)])) (fun t kk => XT.bipushV X6.here hx rfl (31 : Int32) (hb hby d2_41) rfl kk) ?_
  refine own_up (S' := T6.setTop (mkF m 44 #[.val (.ref oo), .val (.long a3), .second] [(.long (XT.ushrL a3 (31 : Int32))), (.long a3)])) (fun t kk => XT.lushr X6.here hx rfl (hb hby d2_43) rfl kk) ?_
  refine own_up (S' := T6.setTop (mkF m 45 #[.val (.ref oo), .val (.long a3), .second] [(.long (a3 ^^^ (XT.ushrL a3 (31 : Int32))))])) (fun t kk => XT.lxor X6.here hx rfl (hb hby d2_44) rfl kk) ?_
  refine own_retL X6 hx hlk hret (hb hby d2_45) (by decide) (by decide) ?_
  show own_Q2 Z oo w0 h0 n0 _ T6.heap _
  rw [e6]
  exact ⟨(by subst h_a3; subst h_a2; subst h_a1; rfl), N2, Kp5, Fstate_2⟩
theorem d3_0 : decode method_2_code 0 = .ok (.lload_n 0, 1) := by decide +kernel
theorem d3_1 : decode method_2_code 1 = .ok (.lstore_n 2, 1) := by decide +kernel
theorem d3_2 : decode method_2_code 2 = .ok (.lload_n 2, 1) := by decide +kernel
theorem d3_3 : decode method_2_code 3 = .ok (.lload_n 2, 1) := by decide +kernel
theorem d3_4 : decode method_2_code 4 = .ok (.bipush 31, 2) := by decide +kernel
theorem d3_6 : decode method_2_code 6 = .ok (.lushr, 1) := by decide +kernel
theorem d3_7 : decode method_2_code 7 = .ok (.lxor, 1) := by decide +kernel
theorem d3_8 : decode method_2_code 8 = .ok (.lload_n 2, 1) := by decide +kernel
theorem d3_9 : decode method_2_code 9 = .ok (.bipush 62, 2) := by decide +kernel
theorem d3_11 : decode method_2_code 11 = .ok (.lushr, 1) := by decide +kernel
theorem d3_12 : decode method_2_code 12 = .ok (.lxor, 1) := by decide +kernel
theorem d3_13 : decode method_2_code 13 = .ok (.ldc2_w 7, 3) := by decide +kernel
theorem d3_16 : decode method_2_code 16 = .ok (.lmul, 1) := by decide +kernel
theorem d3_17 : decode method_2_code 17 = .ok (.lstore_n 2, 1) := by decide +kernel
theorem d3_18 : decode method_2_code 18 = .ok (.lload_n 2, 1) := by decide +kernel
theorem d3_19 : decode method_2_code 19 = .ok (.lload_n 2, 1) := by decide +kernel
theorem d3_20 : decode method_2_code 20 = .ok (.bipush 27, 2) := by decide +kernel
theorem d3_22 : decode method_2_code 22 = .ok (.lushr, 1) := by decide +kernel
theorem d3_23 : decode method_2_code 23 = .ok (.lxor, 1) := by decide +kernel
theorem d3_24 : decode method_2_code 24 = .ok (.lload_n 2, 1) := by decide +kernel
theorem d3_25 : decode method_2_code 25 = .ok (.bipush 54, 2) := by decide +kernel
theorem d3_27 : decode method_2_code 27 = .ok (.lushr, 1) := by decide +kernel
theorem d3_28 : decode method_2_code 28 = .ok (.lxor, 1) := by decide +kernel
theorem d3_29 : decode method_2_code 29 = .ok (.ldc2_w 9, 3) := by decide +kernel
theorem d3_32 : decode method_2_code 32 = .ok (.lmul, 1) := by decide +kernel
theorem d3_33 : decode method_2_code 33 = .ok (.lstore_n 2, 1) := by decide +kernel
theorem d3_34 : decode method_2_code 34 = .ok (.lload_n 2, 1) := by decide +kernel
theorem d3_35 : decode method_2_code 35 = .ok (.lload_n 2, 1) := by decide +kernel
theorem d3_36 : decode method_2_code 36 = .ok (.bipush 30, 2) := by decide +kernel
theorem d3_38 : decode method_2_code 38 = .ok (.lushr, 1) := by decide +kernel
theorem d3_39 : decode method_2_code 39 = .ok (.lxor, 1) := by decide +kernel
theorem d3_40 : decode method_2_code 40 = .ok (.lload_n 2, 1) := by decide +kernel
theorem d3_41 : decode method_2_code 41 = .ok (.bipush 60, 2) := by decide +kernel
theorem d3_43 : decode method_2_code 43 = .ok (.lushr, 1) := by decide +kernel
theorem d3_44 : decode method_2_code 44 = .ok (.lxor, 1) := by decide +kernel
theorem d3_45 : decode method_2_code 45 = .ok (.lstore_n 2, 1) := by decide +kernel
theorem d3_46 : decode method_2_code 46 = .ok (.lload_n 2, 1) := by decide +kernel
theorem d3_47 : decode method_2_code 47 = .ok (.lreturn, 1) := by decide +kernel
def own_R3 : Room := { frames := 0, cells := 0, slots := 0, locals := 0 }
theorem own_ef3 (p0 : Int64) (m : MethodId) : entryFrame m #[(.long p0)] 4 = mkF m 0 #[.val (.long p0), .second, .unset, .unset] [] := by first | (simp [entryFrame, mkF, argsToLocals, Value.category]; done) | rfl
def own_Q3 (Z : State) (p0 : Int64)  (h0 : Heap) (n0 : Nat) (v : Option Value) (h : Heap) (L : List Loc) : Prop := v = some (.long (own_unmix64 p0)) ∧ Fr n0 L ∧ h = h0
set_option maxRecDepth 65536 in
set_option maxHeartbeats 40000000 in
theorem rm3 (l : Launch) (Z : State) (a0 : Array Value) (hw : ∀ d ∈ tables_1, d.before a0 Z = true) (ws : List Jvm.Cond) (p0 : Int64)  (h0 : Heap) (n0 : Nat) (Z0 : n0 ≤ h0.size)  :
    MetFree l (⟨"com/example/fudagumi/fudagumi/engine/ChanceNextPinLaw", "unmix", "(J)J"⟩ : MethodName) (head1 (Jvm.Cond.code (⟨"com/example/fudagumi/fudagumi/engine/ChanceNextPinLaw", "unmix", "(J)J"⟩ : MethodName) method_2_code 4 (some .long) :: ws) own_R3) (fun a U => a = #[(.long p0)] ∧ Z.Warmed39 U.vm ∧ U.heap = h0) (fun _ _ _ _ _ => True) (fun _ U o U' => ∃ v L, o = .returned v ∧ own_Q3 Z p0 h0 n0 v U'.heap L ∧ FrameEnd U o U' L own_R3.cells own_R3.slots) := by
  refine own_met (Q := own_Q3 Z p0 h0 n0) (plainFor_of_name (by first | (simp [plainName, overriddenIn]; done) | decide +kernel)) (own_ef3 p0) ?_
  intro p e s m below meth c T0 hx hby hml hown hnm hret hlk hZ e0 X0
  have N0 := Fr.nil n0
  refine own_up (S' := T0.setTop (mkF m 1 #[.val (.long p0), .second, .unset, .unset] [(.long p0)])) (fun t kk => XT.lloadN X0.here hx rfl (hb hby d3_0) rfl kk) ?_
  refine own_up (S' := T0.setTop (mkF m 2 #[.val (.long p0), .second, .val (.long p0), .second] [])) (fun t kk => XT.lstoreN X0.here hx rfl (hb hby d3_1) rfl (l' := #[.val (.long p0), .second, .val (.long p0), .second]) rfl kk) ?_
  refine own_up (S' := T0.setTop (mkF m 3 #[.val (.long p0), .second, .val (.long p0), .second] [(.long p0)])) (fun t kk => XT.lloadN X0.here hx rfl (hb hby d3_2) rfl kk) ?_
  refine own_up (S' := T0.setTop (mkF m 4 #[.val (.long p0), .second, .val (.long p0), .second] [(.long p0), (.long p0)])) (fun t kk => XT.lloadN X0.here hx rfl (hb hby d3_3) rfl kk) ?_
  refine own_up (S' := T0.setTop (mkF m 6 #[.val (.long p0), .second, .val (.long p0), .second] [(.int (31 : Int32)), (.long p0), (.long p0)])) (fun t kk => XT.bipushV X0.here hx rfl (31 : Int32) (hb hby d3_4) rfl kk) ?_
  refine own_up (S' := T0.setTop (mkF m 7 #[.val (.long p0), .second, .val (.long p0), .second] [(.long (XT.ushrL p0 (31 : Int32))), (.long p0)])) (fun t kk => XT.lushr X0.here hx rfl (hb hby d3_6) rfl kk) ?_
  refine own_up (S' := T0.setTop (mkF m 8 #[.val (.long p0), .second, .val (.long p0), .second] [(.long (p0 ^^^ (XT.ushrL p0 (31 : Int32))))])) (fun t kk => XT.lxor X0.here hx rfl (hb hby d3_7) rfl kk) ?_
  refine own_up (S' := T0.setTop (mkF m 9 #[.val (.long p0), .second, .val (.long p0), .second] [(.long p0), (.long (p0 ^^^ (XT.ushrL p0 (31 : Int32))))])) (fun t kk => XT.lloadN X0.here hx rfl (hb hby d3_8) rfl kk) ?_
  refine own_up (S' := T0.setTop (mkF m 11 #[.val (.long p0), .second, .val (.long p0), .second] [(.int (62 : Int32)), (.long p0), (.long (p0 ^^^ (XT.ushrL p0 (31 : Int32))))])) (fun t kk => XT.bipushV X0.here hx rfl (62 : Int32) (hb hby d3_9) rfl kk) ?_
  refine own_up (S' := T0.setTop (mkF m 12 #[.val (.long p0), .second, .val (.long p0), .second] [(.long (XT.ushrL p0 (62 : Int32))), (.long (p0 ^^^ (XT.ushrL p0 (31 : Int32))))])) (fun t kk => XT.lushr X0.here hx rfl (hb hby d3_11) rfl kk) ?_
  refine own_up (S' := T0.setTop (mkF m 13 #[.val (.long p0), .second, .val (.long p0), .second] [(.long ((p0 ^^^ (XT.ushrL p0 (31 : Int32))) ^^^ (XT.ushrL p0 (62 : Int32))))])) (fun t kk => XT.lxor X0.here hx rfl (hb hby d3_12) rfl kk) ?_
  refine own_up (S' := T0.setTop (mkF m 16 #[.val (.long p0), .second, .val (.long p0), .second] [(.long (3573116690164977347 : Int64)), (.long ((p0 ^^^ (XT.ushrL p0 (31 : Int32))) ^^^ (XT.ushrL p0 (62 : Int32))))])) (fun t kk => X0.ldc2J hx hown (mvT hZ (hw _ (List.mem_of_getElem? (i := 23) rfl))) rfl (hb hby d3_13) kk) ?_
  refine own_up (S' := T0.setTop (mkF m 17 #[.val (.long p0), .second, .val (.long p0), .second] [(.long (((p0 ^^^ (XT.ushrL p0 (31 : Int32))) ^^^ (XT.ushrL p0 (62 : Int32))) * (3573116690164977347 : Int64)))])) (fun t kk => XT.lmul X0.here hx rfl (hb hby d3_16) rfl kk) ?_
  obtain ⟨a1, h_a1⟩ : ∃ z : Int64, z = (((p0 ^^^ (XT.ushrL p0 (31 : Int32))) ^^^ (XT.ushrL p0 (62 : Int32))) * (3573116690164977347 : Int64)) := ⟨_, rfl⟩
  rw [← h_a1]
  refine own_up (S' := T0.setTop (mkF m 18 #[.val (.long p0), .second, .val (.long a1), .second] [])) (fun t kk => XT.lstoreN X0.here hx rfl (hb hby d3_17) rfl (l' := #[.val (.long p0), .second, .val (.long a1), .second]) rfl kk) ?_
  refine own_up (S' := T0.setTop (mkF m 19 #[.val (.long p0), .second, .val (.long a1), .second] [(.long a1)])) (fun t kk => XT.lloadN X0.here hx rfl (hb hby d3_18) rfl kk) ?_
  refine own_up (S' := T0.setTop (mkF m 20 #[.val (.long p0), .second, .val (.long a1), .second] [(.long a1), (.long a1)])) (fun t kk => XT.lloadN X0.here hx rfl (hb hby d3_19) rfl kk) ?_
  refine own_up (S' := T0.setTop (mkF m 22 #[.val (.long p0), .second, .val (.long a1), .second] [(.int (27 : Int32)), (.long a1), (.long a1)])) (fun t kk => XT.bipushV X0.here hx rfl (27 : Int32) (hb hby d3_20) rfl kk) ?_
  refine own_up (S' := T0.setTop (mkF m 23 #[.val (.long p0), .second, .val (.long a1), .second] [(.long (XT.ushrL a1 (27 : Int32))), (.long a1)])) (fun t kk => XT.lushr X0.here hx rfl (hb hby d3_22) rfl kk) ?_
  refine own_up (S' := T0.setTop (mkF m 24 #[.val (.long p0), .second, .val (.long a1), .second] [(.long (a1 ^^^ (XT.ushrL a1 (27 : Int32))))])) (fun t kk => XT.lxor X0.here hx rfl (hb hby d3_23) rfl kk) ?_
  refine own_up (S' := T0.setTop (mkF m 25 #[.val (.long p0), .second, .val (.long a1), .second] [(.long a1), (.long (a1 ^^^ (XT.ushrL a1 (27 : Int32))))])) (fun t kk => XT.lloadN X0.here hx rfl (hb hby d3_24) rfl kk) ?_
  refine own_up (S' := T0.setTop (mkF m 27 #[.val (.long p0), .second, .val (.long a1), .second] [(.int (54 : Int32)), (.long a1), (.long (a1 ^^^ (XT.ushrL a1 (27 : Int32))))])) (fun t kk => XT.bipushV X0.here hx rfl (54 : Int32) (hb hby d3_25) rfl kk) ?_
  refine own_up (S' := T0.setTop (mkF m 28 #[.val (.long p0), .second, .val (.long a1), .second] [(.long (XT.ushrL a1 (54 : Int32))), (.long (a1 ^^^ (XT.ushrL a1 (27 : Int32))))])) (fun t kk => XT.lushr X0.here hx rfl (hb hby d3_27) rfl kk) ?_
  refine own_up (S' := T0.setTop (mkF m 29 #[.val (.long p0), .second, .val (.long a1), .second] [(.long ((a1 ^^^ (XT.ushrL a1 (27 : Int32))) ^^^ (XT.ushrL a1 (54 : Int32))))])) (fun t kk => XT.lxor X0.here hx rfl (hb hby d3_28) rfl kk) ?_
  refine own_up (S' := T0.setTop (mkF m 32 #[.val (.long p0), .second, .val (.long a1), .second] [(.long (-7575587736534282103 : Int64)), (.long ((a1 ^^^ (XT.ushrL a1 (27 : Int32))) ^^^ (XT.ushrL a1 (54 : Int32))))])) (fun t kk => X0.ldc2J hx hown (mvT hZ (hw _ (List.mem_of_getElem? (i := 24) rfl))) rfl (hb hby d3_29) kk) ?_
  refine own_up (S' := T0.setTop (mkF m 33 #[.val (.long p0), .second, .val (.long a1), .second] [(.long (((a1 ^^^ (XT.ushrL a1 (27 : Int32))) ^^^ (XT.ushrL a1 (54 : Int32))) * (-7575587736534282103 : Int64)))])) (fun t kk => XT.lmul X0.here hx rfl (hb hby d3_32) rfl kk) ?_
  obtain ⟨a2, h_a2⟩ : ∃ z : Int64, z = (((a1 ^^^ (XT.ushrL a1 (27 : Int32))) ^^^ (XT.ushrL a1 (54 : Int32))) * (-7575587736534282103 : Int64)) := ⟨_, rfl⟩
  rw [← h_a2]
  refine own_up (S' := T0.setTop (mkF m 34 #[.val (.long p0), .second, .val (.long a2), .second] [])) (fun t kk => XT.lstoreN X0.here hx rfl (hb hby d3_33) rfl (l' := #[.val (.long p0), .second, .val (.long a2), .second]) rfl kk) ?_
  refine own_up (S' := T0.setTop (mkF m 35 #[.val (.long p0), .second, .val (.long a2), .second] [(.long a2)])) (fun t kk => XT.lloadN X0.here hx rfl (hb hby d3_34) rfl kk) ?_
  refine own_up (S' := T0.setTop (mkF m 36 #[.val (.long p0), .second, .val (.long a2), .second] [(.long a2), (.long a2)])) (fun t kk => XT.lloadN X0.here hx rfl (hb hby d3_35) rfl kk) ?_
  refine own_up (S' := T0.setTop (mkF m 38 #[.val (.long p0), .second, .val (.long a2), .second] [(.int (30 : Int32)), (.long a2), (.long a2)])) (fun t kk => XT.bipushV X0.here hx rfl (30 : Int32) (hb hby d3_36) rfl kk) ?_
  refine own_up (S' := T0.setTop (mkF m 39 #[.val (.long p0), .second, .val (.long a2), .second] [(.long (XT.ushrL a2 (30 : Int32))), (.long a2)])) (fun t kk => XT.lushr X0.here hx rfl (hb hby d3_38) rfl kk) ?_
  refine own_up (S' := T0.setTop (mkF m 40 #[.val (.long p0), .second, .val (.long a2), .second] [(.long (a2 ^^^ (XT.ushrL a2 (30 : Int32))))])) (fun t kk => XT.lxor X0.here hx rfl (hb hby d3_39) rfl kk) ?_
  refine own_up (S' := T0.setTop (mkF m 41 #[.val (.long p0), .second, .val (.long a2), .second] [(.long a2), (.long (a2 ^^^ (XT.ushrL a2 (30 : Int32))))])) (fun t kk => XT.lloadN X0.here hx rfl (hb hby d3_40) rfl kk) ?_
  refine own_up (S' := T0.setTop (mkF m 43 #[.val (.long p0), .second, .val (.long a2), .second] [(.int (60 : Int32)), (.long a2), (.long (a2 ^^^ (XT.ushrL a2 (30 : Int32))))])) (fun t kk => XT.bipushV X0.here hx rfl (60 : Int32) (hb hby d3_41) rfl kk) ?_
  refine own_up (S' := T0.setTop (mkF m 44 #[.val (.long p0), .second, .val (.long a2), .second] [(.long (XT.ushrL a2 (60 : Int32))), (.long (a2 ^^^ (XT.ushrL a2 (30 : Int32))))])) (fun t kk => XT.lushr X0.here hx rfl (hb hby d3_43) rfl kk) ?_
  refine own_up (S' := T0.setTop (mkF m 45 #[.val (.long p0), .second, .val (.long a2), .second] [(.long ((a2 ^^^ (XT.ushrL a2 (30 : Int32))) ^^^ (XT.ushrL a2 (60 : Int32))))])) (fun t kk => XT.lxor X0.here hx rfl (hb hby d3_44) rfl kk) ?_
  obtain ⟨a3, h_a3⟩ : ∃ z : Int64, z = ((a2 ^^^ (XT.ushrL a2 (30 : Int32))) ^^^ (XT.ushrL a2 (60 : Int32))) := ⟨_, rfl⟩
  rw [← h_a3]
  refine own_up (S' := T0.setTop (mkF m 46 #[.val (.long p0), .second, .val (.long a3), .second] [])) (fun t kk => XT.lstoreN X0.here hx rfl (hb hby d3_45) rfl (l' := #[.val (.long p0), .second, .val (.long a3), .second]) rfl kk) ?_
  refine own_up (S' := T0.setTop (mkF m 47 #[.val (.long p0), .second, .val (.long a3), .second] [(.long a3)])) (fun t kk => XT.lloadN X0.here hx rfl (hb hby d3_46) rfl kk) ?_
  refine own_retL X0 hx hlk hret (hb hby d3_47) (by decide) (by decide) ?_
  show own_Q3 Z p0 h0 n0 _ T0.heap _
  rw [e0]
  exact ⟨(by subst h_a3; subst h_a2; subst h_a1; rfl), N0, rfl⟩
theorem own_ef0 (x0 : Int64) (m : MethodId) : entryFrame m #[(.long x0)] maxLocals = mkF m 0 #[.val (.long x0), .second, .unset, .unset, .unset, .unset, .unset] [] := by first | (simp [entryFrame, mkF, argsToLocals, Value.category, maxLocals]; done) | rfl
def own_Q0 (Z : State) (x0 : Int64)  (h0 : Heap) (n0 : Nat) (v : Option Value) (h : Heap) (L : List Loc) : Prop := v = some (.int 1) ∧ Fr n0 L
set_option maxRecDepth 65536 in
set_option maxHeartbeats 40000000 in
theorem rm0 (l : Launch) (Z : State) (a0 : Array Value) (hw : ∀ d ∈ tables_1, d.before a0 Z = true) (ws : List Jvm.Cond) (x0 : Int64)  (h0 : Heap) (n0 : Nat) (Z0 : n0 ≤ h0.size)  :
    MetFree l x (head1 (Jvm.Cond.code x code maxLocals ret :: ws) room_1) (fun a U => a = #[(.long x0)] ∧ Z.Warmed39 U.vm ∧ U.heap = h0) (fun _ _ _ _ _ => True) (fun _ U o U' => ∃ v L, o = .returned v ∧ own_Q0 Z x0 h0 n0 v U'.heap L ∧ FrameEnd U o U' L room_1.cells room_1.slots) := by
  refine own_met (Q := own_Q0 Z x0 h0 n0) (plainFor_of_name (by first | (simp [plainName, overriddenIn, x]; done) | decide +kernel)) (own_ef0 x0) ?_
  intro p e s m below meth c T0 hx hby hml hown hnm hret hlk hZ e0 X0
  have hown : s.vm.findClass "com/example/fudagumi/fudagumi/engine/ChanceNextPinLaw" = some m.cls := hown
  have N0 := Fr.nil n0
  refine own_new X0 hx hZ hown (hw _ (List.mem_of_getElem? (i := 0) rfl)) (hw _ (List.mem_of_getElem? (i := 1) rfl)) (hw _ (List.mem_of_getElem? (i := 2) rfl)) e0 rfl (hb hby at_0) (by decide) (by decide) ?_
  intro T1 h1 ob hb1 X1 e1 E1 A1 D1
  have g_ob : n0 ≤ ob := Nat.le_trans Z0 (Nat.le_of_eq hb1.symm)
  have Zn2 := Nat.le_trans Z0 E1.1
  have Fstate_ob : Fld Z h1 ob "com/example/fudagumi/fudagumi/engine/Chance" "state" "J" (.long (0 : Int64)) := D1 (Or.inl (hw _ (List.mem_of_getElem? (i := 10) rfl))) (ty := .long) (by decide)
  show own_Ends p e below s (own_Q0 Z x0 h0 n0) room_1.cells room_1.slots (T1.setTop (mkF m 3 #[.val (.long x0), .second, .unset, .unset, .unset, .unset, .unset] [(.ref ob)]))
  refine own_up (S' := T1.setTop (mkF m 4 #[.val (.long x0), .second, .unset, .unset, .unset, .unset, .unset] [(.ref ob), (.ref ob)])) (fun t kk => XS.dup X1.here hx rfl (hb hby at_3) rfl rfl kk) ?_
  refine own_up (S' := T1.setTop (mkF m 5 #[.val (.long x0), .second, .unset, .unset, .unset, .unset, .unset] [(.long x0), (.ref ob), (.ref ob)])) (fun t kk => XT.lloadN X1.here hx rfl (hb hby at_4) rfl kk) ?_
  refine own_callI X1 hx hZ rfl hown (hw _ (List.mem_of_getElem? (i := 3) rfl)) (hw _ (List.mem_of_getElem? (i := 4) rfl)) (hw _ (List.mem_of_getElem? (i := 2) rfl)) (hw _ (List.mem_of_getElem? (i := 5) rfl)) (by decide) e1 (rm1 l Z a0 hw [] ob x0 h1 n0 Zn2 Fstate_ob A1 g_ob) 1 ob [(.long x0)] [(.ref ob)] (hb hby at_5) (lenOf own_pd0 rfl) (by decide) (by decide) (by decide) (by decide) rfl (by rw [hml]; rfl) rfl (by show 2 * 0 + _ ≤ _; exact Nat.le_of_eq rfl) rfl ?_
  intro T4 L4 r4 X4 q4
  obtain ⟨rfl, M4, K4, G4a_4⟩ := q4
  have N4 := Fr.app N0 M4
  have Zn5 := Nat.le_trans Zn2 K4.1
  have A1_6 := A1.keep K4
  show own_Ends p e below s (own_Q0 Z x0 h0 n0) room_1.cells room_1.slots (T4.setTop (mkF m 8 #[.val (.long x0), .second, .unset, .unset, .unset, .unset, .unset] [(.ref ob)]))
  refine own_up (S' := T4.setTop (mkF m 9 #[.val (.long x0), .second, .val (.ref ob), .unset, .unset, .unset, .unset] [])) (fun t kk => XS.astoreN X4.here hx rfl (hb hby at_8) rfl rfl (l' := #[.val (.long x0), .second, .val (.ref ob), .unset, .unset, .unset, .unset]) rfl kk) ?_
  refine own_up (S' := T4.setTop (mkF m 10 #[.val (.long x0), .second, .val (.ref ob), .unset, .unset, .unset, .unset] [(.ref ob)])) (fun t kk => XS.aloadN X4.here hx rfl (hb hby at_9) rfl rfl kk) ?_
  refine own_callV X4 hx hZ hown (hw _ (List.mem_of_getElem? (i := 11) rfl)) (hw _ (List.mem_of_getElem? (i := 12) rfl)) (hw _ (List.mem_of_getElem? (i := 14) rfl)) (hw _ (List.mem_of_getElem? (i := 13) rfl)) (hw _ (List.mem_of_getElem? (i := 2) rfl)) (hw _ (List.mem_of_getElem? (i := 15) rfl)) (by decide) rfl (rm2 l Z a0 hw [] ob x0 T4.heap n0 Zn5 G4a_4 A1_6 g_ob) 0 A1_6 [] [] (hb hby at_10) (lenOf own_pd1 rfl) (by decide) (by decide) (by decide) (by decide) rfl (by rw [hml]; rfl) rfl (by show 2 * 0 + _ ≤ _; exact Nat.le_of_eq rfl) rfl ?_
  intro T7 L7 r7 X7 q7
  obtain ⟨rfl, M7, K7, G7a_7⟩ := q7
  have N7 := Fr.app N4 M7
  have Zn8 := Nat.le_trans Zn5 K7.1
  have A1_9 := A1_6.keep K7
  show own_Ends p e below s (own_Q0 Z x0 h0 n0) room_1.cells room_1.slots (T7.setTop (mkF m 13 #[.val (.long x0), .second, .val (.ref ob), .unset, .unset, .unset, .unset] [(.long (own_mix64 (x0 + (-7046029254386353131 : Int64))))]))
  obtain ⟨fst, h_fst⟩ : ∃ z : Int64, z = (own_mix64 (x0 + (-7046029254386353131 : Int64))) := ⟨_, rfl⟩
  rw [← h_fst]
  refine own_up (S' := T7.setTop (mkF m 14 #[.val (.long x0), .second, .val (.ref ob), .val (.long fst), .second, .unset, .unset] [])) (fun t kk => XT.lstoreN X7.here hx rfl (hb hby at_13) rfl (l' := #[.val (.long x0), .second, .val (.ref ob), .val (.long fst), .second, .unset, .unset]) rfl kk) ?_
  refine own_up (S' := T7.setTop (mkF m 15 #[.val (.long x0), .second, .val (.ref ob), .val (.long fst), .second, .unset, .unset] [(.ref ob)])) (fun t kk => XS.aloadN X7.here hx rfl (hb hby at_14) rfl rfl kk) ?_
  refine own_callV X7 hx hZ hown (hw _ (List.mem_of_getElem? (i := 11) rfl)) (hw _ (List.mem_of_getElem? (i := 12) rfl)) (hw _ (List.mem_of_getElem? (i := 14) rfl)) (hw _ (List.mem_of_getElem? (i := 13) rfl)) (hw _ (List.mem_of_getElem? (i := 2) rfl)) (hw _ (List.mem_of_getElem? (i := 15) rfl)) (by decide) rfl (rm2 l Z a0 hw [] ob (x0 + (-7046029254386353131 : Int64)) T7.heap n0 Zn8 G7a_7 A1_9 g_ob) 0 A1_9 [] [] (hb hby at_15) (lenOf own_pd1 rfl) (by decide) (by decide) (by decide) (by decide) rfl (by rw [hml]; rfl) rfl (by show 2 * 0 + _ ≤ _; exact Nat.le_of_eq rfl) rfl ?_
  intro T10 L10 r10 X10 q10
  obtain ⟨rfl, M10, K10, G10a_10⟩ := q10
  have N10 := Fr.app N7 M10
  have Zn11 := Nat.le_trans Zn8 K10.1
  have A1_12 := A1_9.keep K10
  show own_Ends p e below s (own_Q0 Z x0 h0 n0) room_1.cells room_1.slots (T10.setTop (mkF m 18 #[.val (.long x0), .second, .val (.ref ob), .val (.long fst), .second, .unset, .unset] [(.long (own_mix64 ((x0 + (-7046029254386353131 : Int64)) + (-7046029254386353131 : Int64))))]))
  obtain ⟨snd, h_snd⟩ : ∃ z : Int64, z = (own_mix64 ((x0 + (-7046029254386353131 : Int64)) + (-7046029254386353131 : Int64))) := ⟨_, rfl⟩
  rw [← h_snd]
  refine own_up (S' := T10.setTop (mkF m 20 #[.val (.long x0), .second, .val (.ref ob), .val (.long fst), .second, .val (.long snd), .second] [])) (fun t kk => XT.lstore X10.here hx rfl (hb hby at_18) rfl (l' := #[.val (.long x0), .second, .val (.ref ob), .val (.long fst), .second, .val (.long snd), .second]) rfl kk) ?_
  refine own_up (S' := T10.setTop (mkF m 21 #[.val (.long x0), .second, .val (.ref ob), .val (.long fst), .second, .val (.long snd), .second] [(.long fst)])) (fun t kk => XT.lloadN X10.here hx rfl (hb hby at_20) rfl kk) ?_
  refine own_callS X10 hx hZ hown (hw _ (List.mem_of_getElem? (i := 19) rfl)) (hw _ (List.mem_of_getElem? (i := 20) rfl)) (hw _ (List.mem_of_getElem? (i := 21) rfl)) (hw _ (List.mem_of_getElem? (i := 22) rfl)) (by decide) rfl (rm3 l Z a0 hw [] fst T10.heap n0 Zn11 ) 0 [(.long fst)] [] (hb hby at_21) (lenOf own_pd2 rfl) (by decide) (by decide) (by decide) (by decide) rfl (by rw [hml]; rfl) rfl (by show 2 * 0 + _ ≤ _; exact Nat.le_of_eq rfl) rfl ?_
  intro T13 L13 r13 X13 q13
  obtain ⟨rfl, M13, e13⟩ := q13
  have N13 := Fr.app N10 M13
  show own_Ends p e below s (own_Q0 Z x0 h0 n0) room_1.cells room_1.slots (T13.setTop (mkF m 24 #[.val (.long x0), .second, .val (.ref ob), .val (.long fst), .second, .val (.long snd), .second] [(.long (own_unmix64 fst))]))
  refine own_up (S' := T13.setTop (mkF m 25 #[.val (.long x0), .second, .val (.ref ob), .val (.long fst), .second, .val (.long snd), .second] [(.long x0), (.long (own_unmix64 fst))])) (fun t kk => XT.lloadN X13.here hx rfl (hb hby at_24) rfl kk) ?_
  refine own_up (S' := T13.setTop (mkF m 28 #[.val (.long x0), .second, .val (.ref ob), .val (.long fst), .second, .val (.long snd), .second] [(.long (-7046029254386353131 : Int64)), (.long x0), (.long (own_unmix64 fst))])) (fun t kk => X13.ldc2J hx hown (mvT hZ (hw _ (List.mem_of_getElem? (i := 25) rfl))) rfl (hb hby at_25) kk) ?_
  refine own_up (S' := T13.setTop (mkF m 29 #[.val (.long x0), .second, .val (.ref ob), .val (.long fst), .second, .val (.long snd), .second] [(.long (x0 + (-7046029254386353131 : Int64))), (.long (own_unmix64 fst))])) (fun t kk => XT.ladd X13.here hx rfl (hb hby at_28) rfl kk) ?_
  refine own_up (S' := T13.setTop (mkF m 30 #[.val (.long x0), .second, .val (.ref ob), .val (.long fst), .second, .val (.long snd), .second] [(.int (XT.cmpL (own_unmix64 fst) (x0 + (-7046029254386353131 : Int64))))])) (fun t kk => XT.lcmp X13.here hx rfl (hb hby at_29) rfl kk) ?_
  have hc30_14 : (own_unmix64 fst) = (x0 + (-7046029254386353131 : Int64)) := by rw [h_fst]; exact own_back64 _
  have ihc30_14 : (own_unmix64 fst).toInt = (x0 + (-7046029254386353131 : Int64)).toInt := own_leq hc30_14
  refine own_up (S' := T13.setTop (mkF m 33 #[.val (.long x0), .second, .val (.ref ob), .val (.long fst), .second, .val (.long snd), .second] [])) (fun t kk => XS.ifNo X13.here hx rfl (hb hby at_30) rfl (XT.ll_ne_f hc30_14) kk) ?_
  refine own_up (S' := T13.setTop (mkF m 35 #[.val (.long x0), .second, .val (.ref ob), .val (.long fst), .second, .val (.long snd), .second] [(.long snd)])) (fun t kk => XT.lload X13.here hx rfl (hb hby at_33) rfl kk) ?_
  refine own_callS X13 hx hZ hown (hw _ (List.mem_of_getElem? (i := 19) rfl)) (hw _ (List.mem_of_getElem? (i := 20) rfl)) (hw _ (List.mem_of_getElem? (i := 21) rfl)) (hw _ (List.mem_of_getElem? (i := 22) rfl)) (by decide) e13 (rm3 l Z a0 hw [] snd T10.heap n0 Zn11 ) 0 [(.long snd)] [] (hb hby at_35) (lenOf own_pd2 rfl) (by decide) (by decide) (by decide) (by decide) rfl (by rw [hml]; rfl) rfl (by show 2 * 0 + _ ≤ _; exact Nat.le_of_eq rfl) rfl ?_
  intro T15 L15 r15 X15 q15
  obtain ⟨rfl, M15, e15⟩ := q15
  have N15 := Fr.app N13 M15
  show own_Ends p e below s (own_Q0 Z x0 h0 n0) room_1.cells room_1.slots (T15.setTop (mkF m 38 #[.val (.long x0), .second, .val (.ref ob), .val (.long fst), .second, .val (.long snd), .second] [(.long (own_unmix64 snd))]))
  refine own_up (S' := T15.setTop (mkF m 39 #[.val (.long x0), .second, .val (.ref ob), .val (.long fst), .second, .val (.long snd), .second] [(.long x0), (.long (own_unmix64 snd))])) (fun t kk => XT.lloadN X15.here hx rfl (hb hby at_38) rfl kk) ?_
  refine own_up (S' := T15.setTop (mkF m 42 #[.val (.long x0), .second, .val (.ref ob), .val (.long fst), .second, .val (.long snd), .second] [(.long (-7046029254386353131 : Int64)), (.long x0), (.long (own_unmix64 snd))])) (fun t kk => X15.ldc2J hx hown (mvT hZ (hw _ (List.mem_of_getElem? (i := 25) rfl))) rfl (hb hby at_39) kk) ?_
  refine own_up (S' := T15.setTop (mkF m 43 #[.val (.long x0), .second, .val (.ref ob), .val (.long fst), .second, .val (.long snd), .second] [(.long (x0 + (-7046029254386353131 : Int64))), (.long (own_unmix64 snd))])) (fun t kk => XT.ladd X15.here hx rfl (hb hby at_42) rfl kk) ?_
  refine own_up (S' := T15.setTop (mkF m 46 #[.val (.long x0), .second, .val (.ref ob), .val (.long fst), .second, .val (.long snd), .second] [(.long (-7046029254386353131 : Int64)), (.long (x0 + (-7046029254386353131 : Int64))), (.long (own_unmix64 snd))])) (fun t kk => X15.ldc2J hx hown (mvT hZ (hw _ (List.mem_of_getElem? (i := 25) rfl))) rfl (hb hby at_43) kk) ?_
  refine own_up (S' := T15.setTop (mkF m 47 #[.val (.long x0), .second, .val (.ref ob), .val (.long fst), .second, .val (.long snd), .second] [(.long ((x0 + (-7046029254386353131 : Int64)) + (-7046029254386353131 : Int64))), (.long (own_unmix64 snd))])) (fun t kk => XT.ladd X15.here hx rfl (hb hby at_46) rfl kk) ?_
  refine own_up (S' := T15.setTop (mkF m 48 #[.val (.long x0), .second, .val (.ref ob), .val (.long fst), .second, .val (.long snd), .second] [(.int (XT.cmpL (own_unmix64 snd) ((x0 + (-7046029254386353131 : Int64)) + (-7046029254386353131 : Int64))))])) (fun t kk => XT.lcmp X15.here hx rfl (hb hby at_47) rfl kk) ?_
  have hc48_16 : (own_unmix64 snd) = ((x0 + (-7046029254386353131 : Int64)) + (-7046029254386353131 : Int64)) := by rw [h_snd]; exact own_back64 _
  have ihc48_16 : (own_unmix64 snd).toInt = ((x0 + (-7046029254386353131 : Int64)) + (-7046029254386353131 : Int64)).toInt := own_leq hc48_16
  refine own_up (S' := T15.setTop (mkF m 51 #[.val (.long x0), .second, .val (.ref ob), .val (.long fst), .second, .val (.long snd), .second] [])) (fun t kk => XS.ifNo X15.here hx rfl (hb hby at_48) rfl (XT.ll_ne_f hc48_16) kk) ?_
  refine own_up (S' := T15.setTop (mkF m 52 #[.val (.long x0), .second, .val (.ref ob), .val (.long fst), .second, .val (.long snd), .second] [(.int (1 : Int32))])) (fun t kk => XT.iconstV X15.here hx rfl (1 : Int32) (hb hby at_51) rfl kk) ?_
  refine own_up (S' := T15.setTop (mkF m 56 #[.val (.long x0), .second, .val (.ref ob), .val (.long fst), .second, .val (.long snd), .second] [(.int (1 : Int32))])) (fun t kk => XS.goto X15.here hx rfl (pc0 := 52) (pc' := 56) rfl (hb hby at_52) (by decide) (by decide) kk) ?_
  refine own_retN X15 hx hlk (t := .boolean) hret (by simp) (z' := (1 : Int32)) rfl (hb hby at_56) (by decide) (by decide) ?_
  show own_Q0 Z x0 h0 n0 _ T15.heap _
  rw [e15]
  exact ⟨rfl, N15⟩
set_option maxRecDepth 65536 in
set_option maxHeartbeats 40000000 in
theorem comes_1 {Post : Tables → Env → Array Value → State → Outcome → State → Prop} (hpost : ∀ tb e args s v u, (limb_1_1.after args s (.returned v) u = true ∧ limb_1_2.after args s (.returned v) u = true ∧ True) → FrameEnd s (.returned v) u (Jvm.fieldLocs frame_1_writes args s ++ Jvm.arrayLocs frame_1_arrays args s ++ Jvm.staticLocs frame_1_statics s) 16 128 → Post tb e args s (.returned v) u) :
    ArmFor flags0 classFile x code maxLocals ret World_1 tables_1 room_1 Calls_1 rest_1 Pre_1 Post := by
  intro l hfl _ _ p e ha hc hk s m args below hf hA hF happ hP
  obtain ⟨hcalls, hrest, hpre⟩ := hP
  obtain ⟨-, -, -, hnamed, -, -, -, hat⟩ := (Spec.applies_iff hf).mp happ
  obtain ⟨hg, hn⟩ := and_e (Cond.before_iff.mp (show (Jvm.Cond.and given_1 narrow_1).before args s = true from hpre))
  obtain ⟨g0, k0⟩ := and_e hg
  obtain ⟨w0, rfl⟩ : ∃ w0 : Value, args = #[w0] := by
    have hs : args.size = 1 := by simpa [Cond.value, given_1] using g0
    obtain ⟨L⟩ := args
    match L, hs with
    | [w0], _ => exact ⟨w0, rfl⟩
  have hw := fun d (hd : d ∈ tables_1) => atoms_spec (ws := Jvm.Cond.code x code maxLocals ret :: tables_1) hat d (List.mem_cons_of_mem _ hd)
  obtain ⟨i0, ei0⟩ := isL_v k0
  obtain rfl : w0 = (.long i0) := Option.some.inj ei0
  obtain ⟨n, o, h1, h2, h3, _, L, rfl, ⟨rfl, N⟩, hq⟩ := rm0 l s _ hw tables_1 i0 s.heap s.heap.size (Nat.le_refl _)  p e ha hc hk s m _ below hf ((Spec.applies_iff_loose hf).mp happ).1 ⟨rfl, State.Warmed39.refl s, rfl⟩ trivial
  refine ⟨n, _, h1, h2, h3, hpost _ _ _ _ _ _ ⟨Cond.after_iff.mpr rfl, Cond.after_iff.mpr (eq_i res_at (Term.int_eval (1)) rfl), trivial⟩ ⟨hq.1, hq.2.1, (hq.2.2.sift fun y hy => Or.inr (N y hy)).mono (by decide) (by decide)⟩⟩
theorem main_1_1 : Claimed_1_1 := comes_1 fun _ _ _ _ _ _ h hF => ⟨h.1, hF⟩
theorem main_1_2 : Claimed_1_2 := comes_1 fun _ _ _ _ _ _ h hF => ⟨h.2.1, hF⟩
end Jvm.Pilot.@@N@@
namespace Jvm.Pilot.@@N@@
open Jvm Jvm.ClassFile Sem Op Lib Jvm.Free Jvm.Stand Jvm.Pilot.@@N@@.Jvm.D
/-! MADE BY PROGRAM (witnessworld.py) out of the Statement's table words and the real class files: 9 classes; the members and pool entries that the words name. The judged class is class 1, her method 2. -/
namespace start1
open Jvm.ClassFile
def u (s : String) : CpInfo := .utf8 (stringToUtf16 s)
/-- a pool by its gaps: so many unusable entries, then the entry; so many at the end -/
def gap : Nat → List CpInfo → List CpInfo
  | 0, r => r
  | n + 1, r => .unusable :: gap n r
def poolList (es : List (Nat × CpInfo)) (last : Nat) : List CpInfo := es.foldr (fun e r => gap e.1 (e.2 :: r)) (gap last [])
def pool (es : List (Nat × CpInfo)) (last : Nat) : Array CpInfo := ⟨poolList es last⟩
def fileOf (pool : Array CpInfo) (this : Nat) (attrs : Array Attribute := #[]) (ms : Array MethodInfo := #[]) (fl : Nat := 33) (sup : Nat := 0) (ifs : Array Nat := #[]) (fds : Array FieldInfo := #[]) : ClassFile where
  minorVersion := 0
  majorVersion := 65
  constantPool := pool
  accessFlags := fl
  thisClass := this
  superClass := sup
  interfaces := ifs
  fields := fds
  methods := ms
  attributes := attrs
def plain (name : String) (sup : Option ClassId) : Class where
  name := name
  kind := .ordinary
  loader := none
  accessFlags := 33
  super := sup
  interfaces := #[]
  cf := none
  fields := #[]
  methods := #[]
  instanceTypes := #[]
  staticTypes := #[]
  resolved := #[]
  callSites := []
  init := .initialized
  statics := none
  mirror := none

def pool0 : Array CpInfo := pool [(5, u "<init>"), (0, u "()V"), (1, .class_ 10), (1, u "java/lang/Object")] 113

def k0c0 : Code := { maxStack := 0, maxLocals := 1, code := object_method_1_code, exceptionTable := #[], attributes := #[] }
def k0m0 : Method := { name := "<init>", desc := "()V", sig := { parameters := [], returnType := none }, accessFlags := 1, code := some k0c0 }
/-- java/lang/Object -/
def k0 : Class := { plain "java/lang/Object" none with
  accessFlags := 33
  interfaces := #[]
  cf := some (fileOf pool0 8 #[] #[{ accessFlags := 1, nameIndex := 5, descriptorIndex := 6, attributes := #[] }] 33 0 #[] #[])
  fields := #[]
  methods := #[k0m0]
  instanceTypes := #[]
  staticTypes := #[]
  resolved := Array.replicate 124 none
  statics := none }

def pool1 : Array CpInfo := pool [(2, .class_ 4), (1, u "java/lang/Object"), (0, u "<init>"), (0, u "()V"), (0, .long 3573116690164977347), (1, .long 10871156337175269513), (1, .class_ 12), (0, u "com/example/fudagumi/fudagumi/engine/Chance"), (0, .methodref 11 14), (0, .nameAndType 5 15), (0, u "(J)V"), (0, .methodref 11 17), (0, .nameAndType 18 19), (0, u "next"), (0, u "()J"), (0, .methodref 21 22), (0, .class_ 23), (0, .nameAndType 24 25), (0, u "com/example/fudagumi/fudagumi/engine/ChanceNextPinLaw"), (0, u "unmix"), (0, u "(J)J"), (0, .long 11400714819323198485), (1, u "STEP"), (0, u "J"), (3, u "law"), (0, u "(J)Z")] 3

def k1m0 : Method := { name := "<init>", desc := "()V", sig := { parameters := [], returnType := none }, accessFlags := 1, code := none }
def k1c1 : Code := { maxStack := 5, maxLocals := 4, code := method_2_code, exceptionTable := #[], attributes := #[] }
def k1m1 : Method := { name := "unmix", desc := "(J)J", sig := { parameters := [.long], returnType := some .long }, accessFlags := 10, code := some k1c1 }
def k1c2 : Code := { maxStack := 6, maxLocals := 7, code := code, exceptionTable := #[], attributes := #[] }
def k1m2 : Method := { name := "law", desc := "(J)Z", sig := { parameters := [.long], returnType := some .boolean }, accessFlags := 9, code := some k1c2 }
/-- com/example/fudagumi/fudagumi/engine/ChanceNextPinLaw -/
def k1 : Class := { plain "com/example/fudagumi/fudagumi/engine/ChanceNextPinLaw" (some 0) with
  accessFlags := 49
  interfaces := #[]
  cf := some (fileOf pool1 21 #[] #[{ accessFlags := 1, nameIndex := 5, descriptorIndex := 6, attributes := #[] }, { accessFlags := 10, nameIndex := 24, descriptorIndex := 25, attributes := #[] }, { accessFlags := 9, nameIndex := 33, descriptorIndex := 34, attributes := #[] }] 49 2 #[] #[{ accessFlags := 26, nameIndex := 28, descriptorIndex := 29, attributes := #[] }])
  fields := #[{ name := "STEP", type := .long, accessFlags := 26, slot := 0, constantValue := 0 }]
  methods := #[k1m0, k1m1, k1m2]
  instanceTypes := #[]
  staticTypes := #[.long]
  resolved := Array.replicate 38 none
  statics := none }

def pool2 : Array CpInfo := pool [(1, .methodref 2 3), (0, .class_ 4), (0, .nameAndType 5 6), (0, u "java/lang/Object"), (0, u "<init>"), (0, u "()V"), (0, .fieldref 8 9), (0, .class_ 10), (0, .nameAndType 11 12), (0, u "com/example/fudagumi/fudagumi/engine/Chance"), (0, u "state"), (0, u "J"), (15, u "next"), (0, u "()J"), (19, .long 11400714819323198485), (1, .long 13787848793156543929), (1, .long 10723151780598845931), (1, u "STEP"), (1, u "(J)V")] 24

def k2c0 : Code := { maxStack := 3, maxLocals := 3, code := prog_16_method_1_code, exceptionTable := #[], attributes := #[] }
def k2m0 : Method := { name := "<init>", desc := "(J)V", sig := { parameters := [.long], returnType := none }, accessFlags := 1, code := some k2c0 }
def k2c1 : Code := { maxStack := 5, maxLocals := 3, code := prog_16_method_4_code, exceptionTable := #[], attributes := #[] }
def k2m1 : Method := { name := "next", desc := "()J", sig := { parameters := [], returnType := some .long }, accessFlags := 0, code := some k2c1 }
/-- com/example/fudagumi/fudagumi/engine/Chance -/
def k2 : Class := { plain "com/example/fudagumi/fudagumi/engine/Chance" (some 0) with
  accessFlags := 49
  interfaces := #[]
  cf := some (fileOf pool2 8 #[] #[{ accessFlags := 1, nameIndex := 5, descriptorIndex := 57, attributes := #[] }, { accessFlags := 0, nameIndex := 28, descriptorIndex := 29, attributes := #[] }] 49 2 #[] #[{ accessFlags := 26, nameIndex := 55, descriptorIndex := 12, attributes := #[] }, { accessFlags := 2, nameIndex := 11, descriptorIndex := 12, attributes := #[] }])
  fields := #[{ name := "STEP", type := .long, accessFlags := 26, slot := 0, constantValue := 0 }, { name := "state", type := .long, accessFlags := 2, slot := 0, constantValue := 0 }]
  methods := #[k2m0, k2m1]
  instanceTypes := #[.long]
  staticTypes := #[.long]
  resolved := Array.replicate 82 none
  statics := none }

def pool3 : Array CpInfo := pool [(1, u "java/lang/Cloneable"), (0, .class_ 1), (0, u "java/lang/Object"), (0, .class_ 3)] 3

/-- java/lang/Cloneable -/
def k3 : Class := { plain "java/lang/Cloneable" (some 0) with
  accessFlags := 1537
  interfaces := #[]
  cf := some (fileOf pool3 2 #[] #[] 1537 4 #[] #[])
  fields := #[]
  methods := #[]
  instanceTypes := #[]
  staticTypes := #[]
  resolved := Array.replicate 8 none
  statics := none }

def pool4 : Array CpInfo := pool [(1, u "java/io/Serializable"), (0, .class_ 1), (0, u "java/lang/Object"), (0, .class_ 3)] 3

/-- java/io/Serializable -/
def k4 : Class := { plain "java/io/Serializable" (some 0) with
  accessFlags := 1537
  interfaces := #[]
  cf := some (fileOf pool4 2 #[] #[] 1537 4 #[] #[])
  fields := #[]
  methods := #[]
  instanceTypes := #[]
  staticTypes := #[]
  resolved := Array.replicate 8 none
  statics := none }

/-- the primitive byte -/
def k5 : Class := { plain "byte" none with kind := .primitive 'B', accessFlags := 0x411 }
/-- [B -/
def k6 : Class := { plain "[B" (some 0) with kind := .array 5 .byte, interfaces := #[3, 4], accessFlags := 1041 }

/-- the primitive int -/
def k7 : Class := { plain "int" none with kind := .primitive 'I', accessFlags := 0x411 }
/-- [I -/
def k8 : Class := { plain "[I" (some 0) with kind := .array 7 .int, interfaces := #[3, 4], accessFlags := 1041 }

def heap : Heap := #[]
def classes : Array Class := #[k0, k1, k2, k3, k4, k5, k6, k7, k8]
def interned : List (Array UInt16 × Addr) := []
def slotsUsed : Nat := 0
def theMethod : MethodId := ⟨1, 2⟩
def args0 : Array Value := #[.long 5]
def aboutOver (below : List Frame) : State where
  vm := { classes := classes, interned := interned.toArray }
  heap := heap
  slotsUsed := slotsUsed
  threads := #[{ frames := .invoking theMethod args0 :: below }]
def below0 : List Frame := [.native { method := ⟨0, 0⟩, args := #[] }]
def about1 : State := aboutOver below0
def p0 : Program := .bare "" "" ""
def e0 : Env := launch0.env 0 0 0
theorem w_frames : about1.frames = Frame.invoking theMethod args0 :: below0 := rfl
set_option maxRecDepth 65536 in
theorem w_args : argsFit about1.vm theMethod args0 = true := by decide +kernel
set_option maxRecDepth 65536 in
theorem w_heap : heapFits about1 = true := by decide +kernel
set_option maxRecDepth 65536 in
theorem w_runnable : about1.curStatus? = some .runnable := by decide +kernel
set_option maxRecDepth 65536 in
theorem w_alone : about1.alone = true := by decide +kernel
set_option maxRecDepth 65536 in
theorem w_named : about1.methodNamed? x = some theMethod := by decide +kernel
set_option maxRecDepth 65536 in
theorem w_hears : about1.hears theMethod below0 = true := by decide +kernel
set_option maxRecDepth 65536 in
theorem w_ripe : about1.ripe theMethod args0 below0 = true := by decide +kernel
theorem w_running : about1.status = .running := rfl
set_option maxRecDepth 65536 in
theorem w_room : about1.hasRoom e0.platform room_1 = true :=
  launch0.hasRoom_least _ room_1 (by decide +kernel) (by decide +kernel) (by decide +kernel) (by decide +kernel) (by decide +kernel) (by decide +kernel)
theorem allAtoms_all (ts : List Jvm.Cond) (a : Array Jvm.Value) (st : Jvm.State) : (allAtoms ts).before a st = ts.all (fun c => c.before a st) := by
  induction ts with
  | nil => rfl
  | cons c t ih =>
    show (Jvm.Cond.and c (allAtoms t)).before a st = _
    rw [Jvm.Cond.before_and, ih, List.all_cons]
def words1 : List Jvm.Cond := Jvm.Cond.code x code maxLocals ret :: tables_1
/-- a 'code' word, met by the world's own term for the bytes: nothing is compared byte by byte -/
theorem code_word {y : MethodName} {bytes : ByteArray} {mx : Nat} {rt : Option FieldType} {a : Array Value} {s : State} {m : MethodId} {meth : Method} {c : Code} (h1 : s.methodNamed? y = some m) (h2 : s.vm.method? m = some meth) (h3 : meth.code = some c) (h4 : c.code = bytes)
    (h5 : (c.maxLocals == mx && c.exceptionTable.isEmpty && decide (c.maxStack ≤ mostOperands) && decide (meth.sig.returnType = rt) && !meth.locks && decide (parseMethodDescriptor y.desc = some meth.sig)) = true) : (Jvm.Cond.code y bytes mx rt).before a s = true := by
  simp only [Bool.and_eq_true, beq_iff_eq, Bool.not_eq_true', decide_eq_true_eq] at h5
  obtain ⟨⟨⟨⟨⟨g1, g2⟩, g3⟩, g4⟩, g5⟩, g6⟩ := h5
  simp [Cond.before, Cond.holds, Cond.value, h1, h2, h3, h4, g1, g2, g3, g4, g5, g6]
def isCode : Jvm.Cond → Bool
  | .code _ _ _ _ => true
  | _ => false
theorem all_split {L : List Jvm.Cond} {P : Jvm.Cond → Bool} (h1 : L.all (fun c => isCode c || P c) = true) (h2 : ∀ c ∈ L.filter isCode, P c = true) : L.all P = true := by
  refine List.all_eq_true.mpr fun c hc => ?_
  have h := List.all_eq_true.mp h1 c hc
  rcases Bool.eq_false_or_eq_true (isCode c) with hi | hi
  · exact h2 c (List.mem_filter.mpr ⟨hc, hi⟩)
  · simpa [hi] using h
set_option maxRecDepth 65536 in
theorem w_c0 : (Jvm.Cond.code x code maxLocals ret).before args0 about1 = true := code_word (m := ⟨1, 2⟩) (meth := k1m2) (c := k1c2) (by decide +kernel) rfl rfl rfl (by decide +kernel)
set_option maxRecDepth 65536 in
theorem w_c1 : (Jvm.Cond.code ({ cls := "com/example/fudagumi/fudagumi/engine/Chance", name := "<init>", desc := "(J)V" } : Jvm.MethodName) prog_16_method_1_code (3 : Nat) (Option.none : Option Jvm.ClassFile.FieldType)).before args0 about1 = true := code_word (m := ⟨2, 0⟩) (meth := k2m0) (c := k2c0) (by decide +kernel) rfl rfl rfl (by decide +kernel)
set_option maxRecDepth 65536 in
theorem w_c2 : (Jvm.Cond.code ({ cls := "java/lang/Object", name := "<init>", desc := "()V" } : Jvm.MethodName) object_method_1_code (1 : Nat) (Option.none : Option Jvm.ClassFile.FieldType)).before args0 about1 = true := code_word (m := ⟨0, 0⟩) (meth := k0m0) (c := k0c0) (by decide +kernel) rfl rfl rfl (by decide +kernel)
set_option maxRecDepth 65536 in
theorem w_c3 : (Jvm.Cond.code ({ cls := "com/example/fudagumi/fudagumi/engine/Chance", name := "next", desc := "()J" } : Jvm.MethodName) prog_16_method_4_code (3 : Nat) (Option.some Jvm.ClassFile.FieldType.long)).before args0 about1 = true := code_word (m := ⟨2, 1⟩) (meth := k2m1) (c := k2c1) (by decide +kernel) rfl rfl rfl (by decide +kernel)
set_option maxRecDepth 65536 in
theorem w_c4 : (Jvm.Cond.code ({ cls := "com/example/fudagumi/fudagumi/engine/ChanceNextPinLaw", name := "unmix", desc := "(J)J" } : Jvm.MethodName) method_2_code (4 : Nat) (Option.some Jvm.ClassFile.FieldType.long)).before args0 about1 = true := code_word (m := ⟨1, 1⟩) (meth := k1m1) (c := k1c1) (by decide +kernel) rfl rfl rfl (by decide +kernel)
def codes1 : List Jvm.Cond := [Jvm.Cond.code x code maxLocals ret, Jvm.Cond.code ({ cls := "com/example/fudagumi/fudagumi/engine/Chance", name := "<init>", desc := "(J)V" } : Jvm.MethodName) prog_16_method_1_code (3 : Nat) (Option.none : Option Jvm.ClassFile.FieldType), Jvm.Cond.code ({ cls := "java/lang/Object", name := "<init>", desc := "()V" } : Jvm.MethodName) object_method_1_code (1 : Nat) (Option.none : Option Jvm.ClassFile.FieldType), Jvm.Cond.code ({ cls := "com/example/fudagumi/fudagumi/engine/Chance", name := "next", desc := "()J" } : Jvm.MethodName) prog_16_method_4_code (3 : Nat) (Option.some Jvm.ClassFile.FieldType.long), Jvm.Cond.code ({ cls := "com/example/fudagumi/fudagumi/engine/ChanceNextPinLaw", name := "unmix", desc := "(J)J" } : Jvm.MethodName) method_2_code (4 : Nat) (Option.some Jvm.ClassFile.FieldType.long)]
set_option maxRecDepth 65536 in
theorem codes_eq : words1.filter isCode = codes1 := rfl
theorem w_codes : ∀ c ∈ words1.filter isCode, c.before args0 about1 = true := by
  rw [codes_eq]
  intro c hc
  simp only [codes1, List.mem_cons, List.not_mem_nil, or_false] at hc
  rcases hc with rfl | rfl | rfl | rfl | rfl
  · exact w_c0
  · exact w_c1
  · exact w_c2
  · exact w_c3
  · exact w_c4
set_option maxRecDepth 65536 in
theorem w_t1 : (words1.take 24).all (fun c => isCode c || c.before args0 about1) = true := by decide +kernel
set_option maxRecDepth 65536 in
theorem w_t2 : (words1.drop 24).all (fun c => isCode c || c.before args0 about1) = true := by decide +kernel
theorem w_tables : (allAtoms (Jvm.Cond.code x code maxLocals ret :: tables_1)).before args0 about1 = true := by
  rw [allAtoms_all]
  show words1.all (fun c => c.before args0 about1) = true
  refine all_split ?_ w_codes
  rw [← List.take_append_drop 24 words1, List.all_append, w_t1, w_t2]
  rfl
set_option maxRecDepth 65536 in
theorem w_case : (Jvm.Cond.and given_1 narrow_1).before args0 about1 = true := by decide +kernel
theorem w_applies : (headSpec (Jvm.Cond.code x code maxLocals ret :: tables_1) room_1).applies x e0.platform about1 = true :=
  (Spec.applies_iff w_frames).mpr ⟨w_running, w_runnable, w_alone, w_named, w_hears, w_ripe, w_room, w_tables⟩
theorem atStart : AtStart classFile x code maxLocals ret World_1 tables_1 room_1 Calls_1 rest_1 Pre_1 launch0 p0 e0 about1 theMethod args0 below0 :=
  ⟨lists_1, trivial, launch0.admits_env _ _ _, launch0.least_env, fairChoices_fair.cas, fairChoices_fair.clock, w_frames, w_args, w_heap, w_applies, trivial, trivial, w_case⟩
end start1
theorem witness_1 : WitnessClaimed_1 := ⟨start1.p0, start1.e0, start1.about1, start1.theMethod, start1.args0, start1.below0, start1.atStart⟩
end Jvm.Pilot.@@N@@
