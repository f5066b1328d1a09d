import JvmDerived
import JvmDerived.Pilot.@@N@@Statement
import JvmDerived.Pilot.@@N@@Code
set_option linter.unusedVariables false
set_option linter.unusedSimpArgs false
namespace Jvm.Pilot.@@N@@
open Jvm Jvm.ClassFile Sem Op Lib Jvm.Free Jvm.Stand Jvm.LawKit Jvm.RoadKit Bundle Jvm.Pilot.@@N@@.Jvm.D
section Own
/-! comparisons, said of the integers -/
theorem own_ieq {x y : Int32} (h : x = y) : x.toInt = y.toInt := by rw [h]
theorem own_ine {x y : Int32} (h : ¬ (x = y)) : x.toInt ≠ y.toInt := fun q => h (Int32.toInt_inj.mp q)
theorem own_ilt {x y : Int32} (h : x < y) : x.toInt < y.toInt := Int32.lt_iff_toInt_lt.mp h
theorem own_inl {x y : Int32} (h : ¬ (x < y)) : y.toInt ≤ x.toInt := Int.not_lt.mp fun q => h (Int32.lt_iff_toInt_lt.mpr q)
theorem own_ieq_of {x y : Int32} (h : x.toInt = y.toInt) : x = y := Int32.toInt_inj.mp h
theorem own_ine_of {x y : Int32} (h : x.toInt ≠ y.toInt) : ¬ (x = y) := fun q => h (by rw [q])
theorem own_ilt_of {x y : Int32} (h : x.toInt < y.toInt) : x < y := Int32.lt_iff_toInt_lt.mpr h
theorem own_inl_of {x y : Int32} (h : y.toInt ≤ x.toInt) : ¬ (x < y) := fun q => Int.not_lt.mpr h (Int32.lt_iff_toInt_lt.mp q)
theorem own_leq {x y : Int64} (h : x = y) : x.toInt = y.toInt := by rw [h]
theorem own_lne {x y : Int64} (h : ¬ (x = y)) : x.toInt ≠ y.toInt := fun q => h (Int64.toInt_inj.mp q)
theorem own_llt {x y : Int64} (h : x < y) : x.toInt < y.toInt := Int64.lt_iff_toInt_lt.mp h
theorem own_lnl {x y : Int64} (h : ¬ (x < y)) : y.toInt ≤ x.toInt := Int.not_lt.mp fun q => h (Int64.lt_iff_toInt_lt.mpr q)
theorem own_leq_of {x y : Int64} (h : x.toInt = y.toInt) : x = y := Int64.toInt_inj.mp h
theorem own_lne_of {x y : Int64} (h : x.toInt ≠ y.toInt) : ¬ (x = y) := fun q => h (by rw [q])
theorem own_llt_of {x y : Int64} (h : x.toInt < y.toInt) : x < y := Int64.lt_iff_toInt_lt.mpr h
theorem own_lnl_of {x y : Int64} (h : y.toInt ≤ x.toInt) : ¬ (x < y) := fun q => Int.not_lt.mpr h (Int64.lt_iff_toInt_lt.mp q)
variable {p : Program} {l : Launch} {e : Env} {R : Room} {s : State} {m : MethodId} {args : Array Value} {below : List Frame} {meth : Method} {c : Code} {T : State} {locs : List Loc} {cells slots : Nat} {Z : State} {a0 : Array Value} {h : Heap} {Q : Option Value → Heap → List Loc → Prop} {kc ks : Nat} {S S' : State}
/-- from S the invocation comes back; Q holds of what it returned, of the heap and of the places written -/
def own_Ends (p : Program) (e : Env) (below : List Frame) (s : State) (Q : Option Value → Heap → List Loc → Prop) (kc ks : Nat) (S : State) : Prop :=
  ∃ s₂ o, Steps p.tables e below S s₂ ∧ s₂.status = .running ∧ Ended s₂ below o ∧ ∃ v L, o = .returned v ∧ Q v s₂.heap L ∧ FrameEnd s o s₂ L kc ks
theorem own_up (st : ∀ t, Steps p.tables e below S' t → Steps p.tables e below S t) (k : own_Ends p e below s Q kc ks S') : own_Ends p e below s Q kc ks S := by
  obtain ⟨t, o, h1, h2⟩ := k
  exact ⟨t, o, st t h1, h2⟩
theorem own_met {y : MethodName} {code : ByteArray} {maxL : Nat} {ret : Option FieldType} {rm : Room} {as' : Array Value} {ws : List Jvm.Cond} {L0 : Array Slot}
    (hpl : plainFor y = true) (hef : ∀ m, entryFrame m as' maxL = mkF m 0 L0 [])
    (body : ∀ (p : Program) (e : Env) (s : State) (m : MethodId) (below : List Frame) (meth : Method) (c : Code) (T : State), p.tables.exec = Jvm.exec → c.code = code → c.maxLocals = maxL → s.vm.findClass y.cls = some m.cls → meth.name = y.name → meth.sig.returnType = ret → meth.locks = false → Z.Warmed39 s.vm → T.heap = h → Stand p l e rm s m as' below meth c T [] 0 0 → own_Ends p e below s Q rm.cells rm.slots (T.setTop (mkF m 0 L0 []))) :
    MetFree l y (head1 (Jvm.Cond.code y code maxL ret :: ws) rm) (fun a U => a = as' ∧ Z.Warmed39 U.vm ∧ U.heap = h) (fun _ _ _ _ _ => True) (fun _ U o U' => ∃ v L, o = .returned v ∧ Q v U'.heap L ∧ FrameEnd U o U' L rm.cells rm.slots) := by
  refine MetFree.of_bodySF hpl hisR ?_
  intro p e s m args below meth c s₁ Bd hml hP hK
  obtain ⟨rfl, hZ, hh⟩ := hP
  rw [hef m]
  exact body p e s m below meth c s₁ Bd.exec Bd.bytes hml (findClass_of_methodNamed Bd.named) (name_of_methodNamed Bd.named Bd.method).1 Bd.returns (BodyLoose.notSynchronized Bd) hZ (by rw [← hh, Bd.state]; rfl) (Stand.of_body Bd)
/-! returns -/
theorem own_iret (X : Stand p l e R s m args below meth c T locs cells slots) (hx : p.tables.exec = Jvm.exec) {pc : Nat} {Ls : Array Slot} {z : Int32} {rest : List Value} (hret : meth.sig.returnType = some .int) (hd : decode c.code pc = .ok (.ireturn, 1)) {fs : List Frame}
    (hl : ∀ (f : JFrame) (acts : List Action), f.method = m → f.locked = none → f.entered = [] → (doReturn e (T.setTop f) acts (some (.int z))).1 = T.setFrames fs) : Steps p.tables e below (T.setTop (mkF m pc Ls (.int z :: rest))) (T.setFrames fs) :=
  retOut X hx hret rfl (Or.inl ⟨rfl, Or.inl rfl, _, rfl⟩) hd hl
theorem own_retI (X : Stand p l e R s m args below meth c T locs cells slots) (hx : p.tables.exec = Jvm.exec) (hlk : meth.locks = false) (hret : meth.sig.returnType = some .int) {pc : Nat} {Ls : Array Slot} {z : Int32} {rest : List Value} (hd : decode c.code pc = .ok (.ireturn, 1)) (hc : cells ≤ kc) (hs : slots ≤ ks) (hq : Q (some (.int z)) T.heap locs) :
    own_Ends p e below s Q kc ks (T.setTop (mkF m pc Ls (.int z :: rest))) := by
  obtain ⟨fs, hr, hrun, hended, hW, hsame⟩ := X.leave (v := some (.int z)) (fun q => by rw [hret] at q; cases q) hlk
  exact ⟨_, _, own_iret X hx hret hd hr, hrun, hended, _, _, rfl, hq, ⟨_, rfl⟩, hW, hsame.mono hc hs⟩
theorem own_retN (X : Stand p l e R s m args below meth c T locs cells slots) (hx : p.tables.exec = Jvm.exec) (hlk : meth.locks = false) {t : FieldType} (hret : meth.sig.returnType = some t) (ht : t = .boolean ∨ t = .byte ∨ t = .char ∨ t = .short) {pc : Nat} {Ls : Array Slot} {z z' : Int32} {rest : List Value} (hn : nar t z = z') (hd : decode c.code pc = .ok (.ireturn, 1)) (hc : cells ≤ kc) (hs : slots ≤ ks) (hq : Q (some (.int z')) T.heap locs) :
    own_Ends p e below s Q kc ks (T.setTop (mkF m pc Ls (.int z :: rest))) := by
  subst hn
  obtain ⟨fs, hr, hrun, hended, hW, hsame⟩ := X.leave (v := some (.int (nar t z))) (fun q => by rw [hret] at q; cases q) hlk
  exact ⟨_, _, retN X hx hret ht hd hr, hrun, hended, _, _, rfl, hq, ⟨_, rfl⟩, hW, hsame.mono hc hs⟩
theorem own_retL (X : Stand p l e R s m args below meth c T locs cells slots) (hx : p.tables.exec = Jvm.exec) (hlk : meth.locks = false) (hret : meth.sig.returnType = some .long) {pc : Nat} {Ls : Array Slot} {z : Int64} {rest : List Value} (hd : decode c.code pc = .ok (.lreturn, 1)) (hc : cells ≤ kc) (hs : slots ≤ ks) (hq : Q (some (.long z)) T.heap locs) :
    own_Ends p e below s Q kc ks (T.setTop (mkF m pc Ls (.long z :: rest))) := by
  obtain ⟨fs, hr, hrun, hended, hW, hsame⟩ := X.leave (v := some (.long z)) (fun q => by rw [hret] at q; cases q) hlk
  exact ⟨_, _, retOut X hx hret rfl (Or.inr (Or.inl ⟨rfl, rfl, _, rfl⟩)) hd hr, hrun, hended, _, _, rfl, hq, ⟨_, rfl⟩, hW, hsame.mono hc hs⟩
theorem own_retA (X : Stand p l e R s m args below meth c T locs cells slots) (hx : p.tables.exec = Jvm.exec) (hlk : meth.locks = false) {t : FieldType} (hret : meth.sig.returnType = some t) (ht : t.isReference = true) {pc : Nat} {Ls : Array Slot} {a : Addr} {rest : List Value} (hn : narrow t (.ref a) = .ref a) (hd : decode c.code pc = .ok (.areturn, 1)) (hc : cells ≤ kc) (hs : slots ≤ ks) (hq : Q (some (.ref a)) T.heap locs) :
    own_Ends p e below s Q kc ks (T.setTop (mkF m pc Ls (.ref a :: rest))) := by
  obtain ⟨fs, hr, hrun, hended, hW, hsame⟩ := X.leave (v := some (.ref a)) (fun q => by rw [hret] at q; cases q) hlk
  exact ⟨_, _, retOut X hx hret hn (Or.inr (Or.inr (Or.inr (Or.inr ⟨rfl, ht, rfl⟩)))) hd hr, hrun, hended, _, _, rfl, hq, ⟨_, rfl⟩, hW, hsame.mono hc hs⟩
theorem own_retV (X : Stand p l e R s m args below meth c T locs cells slots) (hx : p.tables.exec = Jvm.exec) (hlk : meth.locks = false) (hret : meth.sig.returnType = none) {pc : Nat} {Ls : Array Slot} (hd : decode c.code pc = .ok (.return_, 1)) (hc : cells ≤ kc) (hs : slots ≤ ks) (hq : Q none T.heap locs) :
    own_Ends p e below s Q kc ks (T.setTop (mkF m pc Ls [])) := by
  obtain ⟨fs, hr, hrun, hended, hW, hsame⟩ := X.leave (v := none) (fun _ => rfl) hlk
  exact ⟨_, _, X.returnOut hx hret hd hr, hrun, hended, _, _, rfl, hq, ⟨_, rfl⟩, hW, hsame.mono hc hs⟩
/-! calls -/
theorem own_callS (X : Stand p l e R s m args below meth c T locs cells slots) (hx : p.tables.exec = Jvm.exec) (hZ : Z.Warmed39 s.vm) {own : String} {index : Nat} {y : MethodName} {bytes : ByteArray} {maxL : Nat} {ret : Option FieldType} {rm : Room} {as' : Array Value} {Qc : Option Value → Heap → List Loc → Prop}
    (hown : s.vm.findClass own = some m.cls) (w1 : (Jvm.Cond.methodLink own index y).before a0 Z = true) (w2 : (Jvm.Cond.static y).before a0 Z = true) (w3 : (Jvm.Cond.initialized y.cls).before a0 Z = true) (w4 : (Jvm.Cond.code y bytes maxL ret).before a0 Z = true)
    (hy : y.cls ≠ "java/lang/invoke/MethodHandle" ∧ y.cls ≠ "java/lang/invoke/VarHandle") (eT : T.heap = h)
    (hM : MetFree l y (head1 [Jvm.Cond.code y bytes maxL ret] rm) (fun a U => a = as' ∧ Z.Warmed39 U.vm ∧ U.heap = h) (fun _ _ _ _ _ => True) (fun _ U o U' => ∃ v L, o = .returned v ∧ Qc v U'.heap L ∧ FrameEnd U o U' L rm.cells rm.slots))
    (W : Nat) {g : JFrame} (argsL rest : List Value) (hdg : decode c.code g.pc = .ok (.invokestatic index, 3)) (hlen : ∀ sig, parseMethodDescriptor y.desc = some sig → argsL.length = sig.parameters.length)
    (hf : rm.frames + 1 ≤ R.frames) (hl : W + (maxL + 11) + rm.locals ≤ R.locals) (hc : cells + rm.cells ≤ R.cells) (hs : slots + rm.slots ≤ R.slots)
    (hg : g.method = m) (hsize : g.locals.size = c.maxLocals) (hstack : g.stack = argsL.reverse ++ rest) (hW : 2 * g.monitorRoom + (rest.map fun v => v.category).sum ≤ W) (has : argsL.toArray = as')
    (k : ∀ T' L v, Stand p l e R s m args below meth c T' (locs ++ L) (cells + rm.cells) (slots + rm.slots) → Qc v T'.heap L → own_Ends p e below s Q kc ks (T'.setTop { g with pc := g.pc + 3, stack := v.toList ++ rest })) :
    own_Ends p e below s Q kc ks (T.setTop g) := by
  subst has
  obtain ⟨v, _, ⟨T', L', c', n'⟩, -, X', ⟨L, hQ, l1, y1, z1⟩, st⟩ := Jvm.LawKit.callS X hx hown (mvT hZ w1) (mvT hZ w2) (mvT hZ w3) (mvT hZ w4) hy (backOf (W := W) hM hZ w4 w3 hf hl) hg hsize hlen hstack hW hdg (fun _ _ => ⟨rfl, eT, hc, hs⟩)
  dsimp only [Pt.U, Pt.locs, Pt.cells, Pt.slots] at X' l1 y1 z1 st hQ
  subst l1 y1 z1
  exact own_up st (k T' L v X' hQ)
theorem own_callI (X : Stand p l e R s m args below meth c T locs cells slots) (hx : p.tables.exec = Jvm.exec) (hZ : Z.Warmed39 s.vm) {own : String} {index : Nat} {y : MethodName} {bytes : ByteArray} {maxL : Nat} {rm : Room} {as' : Array Value} {Qc : Option Value → Heap → List Loc → Prop}
    (hy1 : y.name = "<init>") (hown : s.vm.findClass own = some m.cls) (w1 : (Jvm.Cond.methodLink own index y).before a0 Z = true) (w2 : (Jvm.Cond.instanceMethod y).before a0 Z = true) (w3 : (Jvm.Cond.initialized y.cls).before a0 Z = true) (w4 : (Jvm.Cond.code y bytes maxL none).before a0 Z = true)
    (hy : y.cls ≠ "java/lang/invoke/MethodHandle" ∧ y.cls ≠ "java/lang/invoke/VarHandle") (eT : T.heap = h)
    (hM : MetFree l y (head1 [Jvm.Cond.code y bytes maxL none] rm) (fun a U => a = as' ∧ Z.Warmed39 U.vm ∧ U.heap = h) (fun _ _ _ _ _ => True) (fun _ U o U' => ∃ v L, o = .returned v ∧ Qc v U'.heap L ∧ FrameEnd U o U' L rm.cells rm.slots))
    (W : Nat) {g : JFrame} (a : Addr) (argsL rest : List Value) (hdg : decode c.code g.pc = .ok (.invokespecial index, 3)) (hlen : ∀ sig, parseMethodDescriptor y.desc = some sig → argsL.length = sig.parameters.length)
    (hf : rm.frames + 1 ≤ R.frames) (hl : W + (maxL + 11) + rm.locals ≤ R.locals) (hc : cells + rm.cells ≤ R.cells) (hs : slots + rm.slots ≤ R.slots)
    (hg : g.method = m) (hsize : g.locals.size = c.maxLocals) (hstack : g.stack = argsL.reverse ++ .ref a :: rest) (hW : 2 * g.monitorRoom + (rest.map fun v => v.category).sum ≤ W) (has : (.ref a :: argsL).toArray = as')
    (k : ∀ T' L v, Stand p l e R s m args below meth c T' (locs ++ L) (cells + rm.cells) (slots + rm.slots) → Qc v T'.heap L → own_Ends p e below s Q kc ks (T'.setTop { g with pc := g.pc + 3, stack := v.toList ++ rest })) :
    own_Ends p e below s Q kc ks (T.setTop g) := by
  subst has
  obtain ⟨v, _, ⟨T', L', c', n'⟩, -, X', ⟨L, hQ, l1, y1, z1⟩, st⟩ := X.specialBack hx hy1 hown (mvT hZ w1) (mvT hZ w2) (mvT hZ w4) hy (backOf (W := W) hM hZ w4 w3 hf hl) hg hsize (Steps.refl _) hlen hstack hW hdg (fun _ _ => ⟨rfl, eT, hc, hs⟩)
  dsimp only [Pt.U, Pt.locs, Pt.cells, Pt.slots] at X' l1 y1 z1 st hQ
  subst l1 y1 z1
  exact own_up (fun t q => st.trans q) (k T' L v X' hQ)
theorem own_callV (X : Stand p l e R s m args below meth c T locs cells slots) (hx : p.tables.exec = Jvm.exec) (hZ : Z.Warmed39 s.vm) {own C : String} {index : Nat} {y : MethodName} {bytes : ByteArray} {maxL : Nat} {ret : Option FieldType} {rm : Room} {as' : Array Value} {Qc : Option Value → Heap → List Loc → Prop}
    (hown : s.vm.findClass own = some m.cls) (w1 : (Jvm.Cond.methodLink own index y).before a0 Z = true) (w2 : (Jvm.Cond.declares y).before a0 Z = true) (w5 : (Jvm.Cond.selects C y y).before a0 Z = true) (w6 : (Jvm.Cond.instanceMethod y).before a0 Z = true) (w3 : (Jvm.Cond.initialized y.cls).before a0 Z = true) (w4 : (Jvm.Cond.code y bytes maxL ret).before a0 Z = true)
    (hy : y.cls ≠ "java/lang/invoke/MethodHandle" ∧ y.cls ≠ "java/lang/invoke/VarHandle") (eT : T.heap = h)
    (hM : MetFree l y (head1 [Jvm.Cond.code y bytes maxL ret] rm) (fun a U => a = as' ∧ Z.Warmed39 U.vm ∧ U.heap = h) (fun _ _ _ _ _ => True) (fun _ U o U' => ∃ v L, o = .returned v ∧ Qc v U'.heap L ∧ FrameEnd U o U' L rm.cells rm.slots))
    (W : Nat) {g : JFrame} {a : Addr} (E : Exa Z h a C) (argsL rest : List Value) (hdg : decode c.code g.pc = .ok (.invokevirtual index, 3)) (hlen : ∀ sig, parseMethodDescriptor y.desc = some sig → argsL.length = sig.parameters.length)
    (hf : rm.frames + 1 ≤ R.frames) (hl : W + (maxL + 11) + rm.locals ≤ R.locals) (hc : cells + rm.cells ≤ R.cells) (hs : slots + rm.slots ≤ R.slots)
    (hg : g.method = m) (hsize : g.locals.size = c.maxLocals) (hstack : g.stack = argsL.reverse ++ .ref a :: rest) (hW : 2 * g.monitorRoom + (rest.map fun v => v.category).sum ≤ W) (has : (.ref a :: argsL).toArray = as')
    (k : ∀ T' L v, Stand p l e R s m args below meth c T' (locs ++ L) (cells + rm.cells) (slots + rm.slots) → Qc v T'.heap L → own_Ends p e below s Q kc ks (T'.setTop { g with pc := g.pc + 3, stack := v.toList ++ rest })) :
    own_Ends p e below s Q kc ks (T.setTop g) := by
  subst has
  obtain ⟨cq, kq, qa, qb, qc⟩ := isOf hZ eT E
  obtain ⟨v, _, ⟨T', L', c', n'⟩, -, X', ⟨L, hQ, l1, y1, z1⟩, st⟩ := X.virtualBack hx hown (mvT hZ w1) (mvT hZ w2) (notFace_of_selects (args := #[]) (mvT hZ w5)) (mvT hZ w5) (mvT hZ w6) hy (backOf (W := W) hM hZ w4 w3 hf hl) qa qc hg hsize (Steps.refl _) hlen hstack hW hdg (fun _ _ => ⟨rfl, eT, hc, hs⟩)
  dsimp only [Pt.U, Pt.locs, Pt.cells, Pt.slots] at X' l1 y1 z1 st hQ
  subst l1 y1 z1
  exact own_up (fun t q => st.trans q) (k T' L v X' hQ)
/-- the link names y in a class that inherits it from 'owner' -/
theorem own_callU (X : Stand p l e R s m args below meth c T locs cells slots) (hx : p.tables.exec = Jvm.exec) (hZ : Z.Warmed39 s.vm) {own C owner : String} {index : Nat} {x y : MethodName} {bytes : ByteArray} {maxL : Nat} {ret : Option FieldType} {rm : Room} {as' : Array Value} {Qc : Option Value → Heap → List Loc → Prop}
    (hown : s.vm.findClass own = some m.cls) (w1 : (Jvm.Cond.methodLink own index x).before a0 Z = true) (w7 : (Jvm.Cond.sameMethod x.cls owner x.name x.desc).before a0 Z = true) (w2 : (Jvm.Cond.declares ⟨owner, x.name, x.desc⟩).before a0 Z = true) (w5 : (Jvm.Cond.selects C x y).before a0 Z = true) (w6 : (Jvm.Cond.instanceMethod y).before a0 Z = true) (w3 : (Jvm.Cond.initialized y.cls).before a0 Z = true) (w4 : (Jvm.Cond.code y bytes maxL ret).before a0 Z = true)
    (hy : owner ≠ "java/lang/invoke/MethodHandle" ∧ owner ≠ "java/lang/invoke/VarHandle") (eT : T.heap = h)
    (hM : MetFree l y (head1 [Jvm.Cond.code y bytes maxL ret] rm) (fun a U => a = as' ∧ Z.Warmed39 U.vm ∧ U.heap = h) (fun _ _ _ _ _ => True) (fun _ U o U' => ∃ v L, o = .returned v ∧ Qc v U'.heap L ∧ FrameEnd U o U' L rm.cells rm.slots))
    (W : Nat) {g : JFrame} {a : Addr} (E : Exa Z h a C) (argsL rest : List Value) (hdg : decode c.code g.pc = .ok (.invokevirtual index, 3)) (hlen : ∀ sig, parseMethodDescriptor x.desc = some sig → argsL.length = sig.parameters.length)
    (hf : rm.frames + 1 ≤ R.frames) (hl : W + (maxL + 11) + rm.locals ≤ R.locals) (hc : cells + rm.cells ≤ R.cells) (hs : slots + rm.slots ≤ R.slots)
    (hg : g.method = m) (hsize : g.locals.size = c.maxLocals) (hstack : g.stack = argsL.reverse ++ .ref a :: rest) (hW : 2 * g.monitorRoom + (rest.map fun v => v.category).sum ≤ W) (has : (.ref a :: argsL).toArray = as')
    (k : ∀ T' L v, Stand p l e R s m args below meth c T' (locs ++ L) (cells + rm.cells) (slots + rm.slots) → Qc v T'.heap L → own_Ends p e below s Q kc ks (T'.setTop { g with pc := g.pc + 3, stack := v.toList ++ rest })) :
    own_Ends p e below s Q kc ks (T.setTop g) := by
  subst has
  obtain ⟨cq, kq, qa, qb, qc⟩ := isOf hZ eT E
  obtain ⟨v, _, ⟨T', L', c', n'⟩, -, X', ⟨L, hQ, l1, y1, z1⟩, st⟩ := X.virtualBackUp hx hown (mvT hZ w1) (mvT hZ w7) (mvT hZ w2) hy (mvT hZ w5) (mvT hZ w6) (backOf (W := W) hM hZ w4 w3 hf hl) qa qc hg hsize (Steps.refl _) hlen hstack hW hdg (fun _ _ => ⟨rfl, eT, hc, hs⟩)
  dsimp only [Pt.U, Pt.locs, Pt.cells, Pt.slots] at X' l1 y1 z1 st hQ
  subst l1 y1 z1
  exact own_up (fun t q => st.trans q) (k T' L v X' hQ)
theorem own_init (X : Stand p l e R s m args below meth c T locs cells slots) (hx : p.tables.exec = Jvm.exec) (hZ : Z.Warmed39 s.vm) {own : String} {idx : Nat} (hown : s.vm.findClass own = some m.cls) (w1 : (Jvm.Cond.methodLink own idx Lib.objectInit).before a0 Z = true) (w2 : (Jvm.Cond.instanceMethod Lib.objectInit).before a0 Z = true)
    (w3 : (Jvm.Cond.code Lib.objectInit ⟨#[0xb1]⟩ 1 none).before a0 Z = true) (eT : T.heap = h) (W : Nat) {g g' : JFrame} {a : Addr} {rest : List Value} (hd : decode c.code g.pc = .ok (.invokespecial idx, 3)) (hf : 1 ≤ R.frames) (hl : W + 12 ≤ R.locals)
    (hg : g.method = m) (hsize : g.locals.size = c.maxLocals) (hs : g.stack = .ref a :: rest) (hW : 2 * g.monitorRoom + (rest.map fun v => v.category).sum ≤ W) (hg' : { g with pc := g.pc + 3, stack := rest } = g')
    (k : ∀ T', Stand p l e R s m args below meth c T' locs cells slots → T'.heap = h → own_Ends p e below s Q kc ks (T'.setTop g')) : own_Ends p e below s Q kc ks (T.setTop g) := by
  subst hg'
  obtain ⟨T', X', e', st⟩ := initO X hx hZ hown w1 w2 w3 eT hg hsize hs hd hf hW hl
  exact own_up st (k T' X' e')
/-! the heap -/
theorem own_new (X : Stand p l e R s m args below meth c T locs cells slots) (hx : p.tables.exec = Jvm.exec) (hZ : Z.Warmed39 s.vm) {own C : String} {index n : Nat} (hown : s.vm.findClass own = some m.cls) (w : (Jvm.Cond.classLink own index C).before a0 Z = true) (wi : (Jvm.Cond.instantiable C n).before a0 Z = true) (wz : (Jvm.Cond.initialized C).before a0 Z = true) (eT : T.heap = h)
    {g : JFrame} (hg : g.method = m) (hd : decode c.code g.pc = .ok (.new index, 3)) (hc : cells + 1 ≤ R.cells) (hl : slots + n ≤ R.slots)
    (k : ∀ T' h' b, b = h.size → Stand p l e R s m args below meth c T' locs (cells + 1) (slots + n) → T'.heap = h' → Ext h h' → Exa Z h' b C → (∀ {O nm d : String} {ty : FieldType}, Laid Z a0 C O nm d → parseFieldDescriptor d = some ty → Fld Z h' b O nm d (defaultValue ty)) → own_Ends p e below s Q kc ks (T'.setTop { g with pc := g.pc + 3, stack := .ref b :: g.stack })) : own_Ends p e below s Q kc ks (T.setTop g) := by
  obtain ⟨T', h', X', e', E, A, D, -, st⟩ := newO X hx hZ hown w wi wz eT hg hd hc hl
  exact own_up st (k T' h' _ rfl X' e' E A D)
theorem own_get (X : Stand p l e R s m args below meth c T locs cells slots) (hx : p.tables.exec = Jvm.exec) (hZ : Z.Warmed39 s.vm) {own R0 O n d : String} {index : Nat} (hown : s.vm.findClass own = some m.cls) (w : (Jvm.Cond.fieldLink own index R0 n d).before a0 Z = true) (via : Via Z R0 O n d)
    (eT : T.heap = h) {a : Addr} {v : Value} (F : Fld Z h a O n d v) {g g' : JFrame} {rest : List Value} (hd : decode c.code g.pc = .ok (.getfield index, 3)) (hg : g.method = m) (hs : g.stack = .ref a :: rest) (hg' : { g with pc := g.pc + 3, stack := v :: rest } = g')
    (k : ∀ T', Stand p l e R s m args below meth c T' locs cells slots → T'.heap = h → own_Ends p e below s Q kc ks (T'.setTop g')) : own_Ends p e below s Q kc ks (T.setTop g) := by
  subst hg'
  obtain ⟨T', X', e', st⟩ := getF X hx hZ hown (host := "") (Or.inl w) via eT F hg hs hd
  exact own_up st (k T' X' e')
theorem own_gets (X : Stand p l e R s m args below meth c T locs cells slots) (hx : p.tables.exec = Jvm.exec) (hZ : Z.Warmed39 s.vm) {own R0 O n d : String} {index : Nat} (hown : s.vm.findClass own = some m.cls) (w : (Jvm.Cond.fieldLink own index R0 n d).before a0 Z = true) (via : Via Z R0 O n d)
    (eT : T.heap = h) {v : Value} (F : Sta Z h O n d v) {g g' : JFrame} (hd : decode c.code g.pc = .ok (.getstatic index, 3)) (hg : g.method = m) (hg' : { g with pc := g.pc + 3, stack := v :: g.stack } = g')
    (k : ∀ T', Stand p l e R s m args below meth c T' locs cells slots → T'.heap = h → own_Ends p e below s Q kc ks (T'.setTop g')) : own_Ends p e below s Q kc ks (T.setTop g) := by
  subst hg'
  obtain ⟨T', X', e', st⟩ := getS2 X hx hZ hown (host := "") (Or.inl w) via eT F hg hd
  exact own_up st (k T' X' e')
theorem own_put (X : Stand p l e R s m args below meth c T locs cells slots) (hx : p.tables.exec = Jvm.exec) (hZ : Z.Warmed39 s.vm) {own R0 O n d C : String} {index kk : Nat} (ty : FieldType) (hown : s.vm.findClass own = some m.cls) (w : (Jvm.Cond.fieldLink own index R0 n d).before a0 Z = true) (via : Via Z R0 O n d)
    (eT : T.heap = h) {a : Addr} {v v' old : Value} (F : Fld Z h a O n d old) (E : Exa Z h a C) (L : (Jvm.Cond.lays C O n d).before a0 Z = true ∨ ((Jvm.Cond.laysFinal C O n d).before a0 Z = true ∧ own = O ∧ meth.name = "<init>")) (wi : (Jvm.Cond.instantiable C kk).before a0 Z = true)
    (hty : parseFieldDescriptor d = some ty) (hn : narrow ty v = v') (hf : fits ty v' = true) {g g' : JFrame} {rest : List Value} (hd : decode c.code g.pc = .ok (.putfield index, 3)) (hg : g.method = m) (hs : g.stack = v :: .ref a :: rest) (hg' : { g with pc := g.pc + 3, stack := rest } = g')
    (k : ∀ T' h', Stand p l e R s m args below meth c T' (locs ++ [⟨a, Jvm.RoadKit.slotOf Z O n d⟩]) cells slots → T'.heap = h' → Wr h h' a (Jvm.RoadKit.slotOf Z O n d) v' → own_Ends p e below s Q kc ks (T'.setTop g')) : own_Ends p e below s Q kc ks (T.setTop g) := by
  subst hg'
  obtain ⟨T', h', X', e', W, st⟩ := putFN X hx hZ hown w via eT F E L wi hty hn hf hg hs hd
  exact own_up st (k T' h' X' e' W)
theorem own_fr {k : Nat} {L : List Loc} {a : Addr} {sl : Nat} (N : Fr k L) (q : k ≤ a) : Fr k (L ++ [⟨a, sl⟩]) := N.app fun y hy => by cases List.mem_singleton.mp hy; exact q
/-! arrays: the list of the values -/
def own_Al (Z : State) (h : Heap) (a : Addr) (ty : FieldType) (vs : List Value) : Prop := ∃ c : Cell, Arr Z h a c ty ∧ c.slots.toList = vs ∧ vs.length < 2 ^ 31
theorem own_Al_lt {h : Heap} {a : Addr} {ty : FieldType} {vs : List Value} (A : own_Al Z h a ty vs) : a < h.size := by obtain ⟨c, A, -⟩ := A; exact A.lt
theorem own_Al_ext {h h' : Heap} {a : Addr} {ty : FieldType} {vs : List Value} (E : Ext h h') (A : own_Al Z h a ty vs) : own_Al Z h' a ty vs := by obtain ⟨c, A, r⟩ := A; exact ⟨c, A.ext E, r⟩
theorem own_Al_oth {h h' : Heap} {a b : Addr} {sl : Nat} {v : Value} {ty : FieldType} {vs : List Value} (W : Wr h h' b sl v) (A : own_Al Z h a ty vs) (ne : a ≠ b) : own_Al Z h' a ty vs := by obtain ⟨c, A, r⟩ := A; exact ⟨c, A.other W ne, r⟩
theorem own_Al_keep {h h' : Heap} {a : Addr} {ws : List Addr} {ty : FieldType} {vs : List Value} (K : Keep h h' ws) (A : own_Al Z h a ty vs) (ne : a ∉ ws) : own_Al Z h' a ty vs := by obtain ⟨c, A, r⟩ := A; exact ⟨c, ⟨K.2.1 a c A.1 ne, A.2⟩, r⟩
theorem own_nat {j : Int32} {i : Nat} (hj : j.toInt = i) : ¬ j < 0 ∧ j.toNatClampNeg = i := by
  have h0 : ¬ j < 0 := by rw [Int32.lt_iff_toInt_lt, hj]; have : (0 : Int32).toInt = 0 := rfl; omega
  refine ⟨h0, ?_⟩
  have := nat_of h0
  omega
theorem own_newa (X : Stand p l e R s m args below meth c T locs cells slots) (hx : p.tables.exec = Jvm.exec) (hZ : Z.Warmed39 s.vm) {aty : ArrayType} {ty : FieldType} (hty : newarray.typeOf aty = ty) (w : (Jvm.Cond.arrayClass ty).before a0 Z = true) (eT : T.heap = h) {g : JFrame} {z : Int32} (nn : Nat) {rest : List Value} (hd : decode c.code g.pc = .ok (.newarray aty, 2)) (hn : z.toInt = nn) (cap : Nat) (hcap : nn ≤ cap) (hb : cap * 8 ≤ 536870912) (hc : cells + 1 ≤ R.cells) (hl : slots + cap ≤ R.slots)
    (hg : g.method = m) (hs : g.stack = .int z :: rest)
    (k : ∀ T' h' b, b = h.size → Stand p l e R s m args below meth c T' locs (cells + 1) (slots + cap) → T'.heap = h' → Ext h h' → own_Al Z h' b ty (List.replicate nn (defaultValue ty)) → own_Ends p e below s Q kc ks (T'.setTop { g with pc := g.pc + 2, stack := .ref b :: rest })) : own_Ends p e below s Q kc ks (T.setTop g) := by
  subst hty
  obtain ⟨h0, h1⟩ := own_nat hn
  obtain ⟨T', h', cA, X', e', E, A, st⟩ := newP X hx hZ w eT hg hd hs h0 (cap := cap) (by omega) hb hc hl
  exact own_up st (k T' h' _ rfl X' e' E ⟨_, A, by simp [newA, h1], by simp; omega⟩)
theorem own_in {ty : FieldType} {vs : List Value} {cl : Cell} {j : Int32} {i : Nat} (hv : cl.slots.toList = vs) (hj : j.toInt = i) (hi : i < vs.length) : ¬ (j < 0 ∨ cl.slots.size ≤ j.toNatClampNeg) := by
  obtain ⟨h0, h1⟩ := own_nat hj
  subst hv
  rintro (q | q)
  · exact h0 q
  · rw [h1] at q; simp at hi; omega
theorem own_Al_set {h h' : Heap} {a : Addr} {cl : Cell} {ty : FieldType} {vs : List Value} {j : Int32} {i : Nat} {v : Value} (A : Arr Z h a cl ty) (hv : cl.slots.toList = vs) (hl : vs.length < 2 ^ 31) (hj : j.toInt = i) (W : Wr h h' a j.toNatClampNeg v) : own_Al Z h' a ty (vs.set i v) := by
  obtain ⟨h0, h1⟩ := own_nat hj
  rw [h1] at W
  exact ⟨_, A.same W, by simp [Cell.setSlot, hv], by simpa using hl⟩
theorem own_sti (X : Stand p l e R s m args below meth c T locs cells slots) (hx : p.tables.exec = Jvm.exec) (hZ : Z.Warmed39 s.vm) (eT : T.heap = h) {a : Addr} {vs : List Value} (A : own_Al Z h a .int vs) {j x : Int32} (i : Nat) {g g' : JFrame} {rest : List Value} (hd : decode c.code g.pc = .ok (.iastore, 1)) (hj : j.toInt = i) (hi : i < vs.length) (hg : g.method = m) (hs : g.stack = .int x :: .int j :: .ref a :: rest) (hg' : { g with pc := g.pc + 1, stack := rest } = g')
    (k : ∀ T' h', Stand p l e R s m args below meth c T' (locs ++ [⟨a, j.toNatClampNeg⟩]) cells slots → T'.heap = h' → Wr h h' a j.toNatClampNeg (.int x) → own_Al Z h' a .int (vs.set i (.int x)) → own_Ends p e below s Q kc ks (T'.setTop g')) : own_Ends p e below s Q kc ks (T.setTop g) := by
  subst hg'
  obtain ⟨cl, A, hv, hl⟩ := A
  obtain ⟨T', h', X', e', W, st⟩ := stI X hx hZ eT A (own_in (ty := .int) hv hj hi) hg hs hd
  exact own_up st (k T' h' X' e' W (own_Al_set A hv hl hj W))
theorem own_stj (X : Stand p l e R s m args below meth c T locs cells slots) (hx : p.tables.exec = Jvm.exec) (hZ : Z.Warmed39 s.vm) (eT : T.heap = h) {a : Addr} {vs : List Value} (A : own_Al Z h a .long vs) {j : Int32} {x : Int64} (i : Nat) {g g' : JFrame} {rest : List Value} (hd : decode c.code g.pc = .ok (.lastore, 1)) (hj : j.toInt = i) (hi : i < vs.length) (hg : g.method = m) (hs : g.stack = .long x :: .int j :: .ref a :: rest) (hg' : { g with pc := g.pc + 1, stack := rest } = g')
    (k : ∀ T' h', Stand p l e R s m args below meth c T' (locs ++ [⟨a, j.toNatClampNeg⟩]) cells slots → T'.heap = h' → Wr h h' a j.toNatClampNeg (.long x) → own_Al Z h' a .long (vs.set i (.long x)) → own_Ends p e below s Q kc ks (T'.setTop g')) : own_Ends p e below s Q kc ks (T.setTop g) := by
  subst hg'
  obtain ⟨cl, A, hv, hl⟩ := A
  obtain ⟨T', h', X', e', W, st⟩ := stJ X hx hZ eT A (own_in (ty := .long) hv hj hi) hg hs hd
  exact own_up st (k T' h' X' e' W (own_Al_set A hv hl hj W))
theorem own_stb (X : Stand p l e R s m args below meth c T locs cells slots) (hx : p.tables.exec = Jvm.exec) (hZ : Z.Warmed39 s.vm) (eT : T.heap = h) {a : Addr} {vs : List Value} (A : own_Al Z h a .byte vs) {j x : Int32} (i : Nat) {g g' : JFrame} {rest : List Value} (hd : decode c.code g.pc = .ok (.bastore, 1)) (hj : j.toInt = i) (hi : i < vs.length) (hg : g.method = m) (hs : g.stack = .int x :: .int j :: .ref a :: rest) (hg' : { g with pc := g.pc + 1, stack := rest } = g')
    (k : ∀ T' h', Stand p l e R s m args below meth c T' (locs ++ [⟨a, j.toNatClampNeg⟩]) cells slots → T'.heap = h' → Wr h h' a j.toNatClampNeg (.int (nar .byte x)) → own_Al Z h' a .byte (vs.set i (.int (nar .byte x))) → own_Ends p e below s Q kc ks (T'.setTop g')) : own_Ends p e below s Q kc ks (T.setTop g) := by
  subst hg'
  obtain ⟨cl, A, hv, hl⟩ := A
  obtain ⟨T', h', X', e', W, st⟩ := stB X hx hZ eT A (own_in (ty := .byte) hv hj hi) hg hs hd
  exact own_up st (k T' h' X' e' W (own_Al_set A hv hl hj W))
theorem own_at {vs : List Value} {cl : Cell} {j : Int32} {i : Nat} {v : Value} (hv : cl.slots.toList = vs) (hj : j.toInt = i) (hi : vs[i]? = some v) : cl.slots[j.toNatClampNeg]? = some v := by
  rw [(own_nat hj).2, ← Array.getElem?_toList, hv]; exact hi
theorem own_ldi (X : Stand p l e R s m args below meth c T locs cells slots) (hx : p.tables.exec = Jvm.exec) (hZ : Z.Warmed39 s.vm) (eT : T.heap = h) {a : Addr} {vs : List Value} (A : own_Al Z h a .int vs) {j : Int32} {v : Value} (i : Nat) {g g' : JFrame} {rest : List Value} (hd : decode c.code g.pc = .ok (.iaload, 1)) (hj : j.toInt = i) (hi : vs[i]? = some v) (hg : g.method = m) (hs : g.stack = .int j :: .ref a :: rest) (hg' : { g with pc := g.pc + 1, stack := v :: rest } = g')
    (k : own_Ends p e below s Q kc ks (T.setTop g')) : own_Ends p e below s Q kc ks (T.setTop g) := by
  subst hg'
  obtain ⟨cl, A, hv, hl⟩ := A
  exact own_up (fun t => X.iaload hx (by rw [eT]; exact A.1) (State.isArrayOf_alike hZ.alike A.2.1) A.2.2 (own_in (ty := .int) hv hj (List.getElem?_eq_some_iff.mp hi).1) (own_at hv hj hi) hg hs hd t) k
theorem own_ldj (X : Stand p l e R s m args below meth c T locs cells slots) (hx : p.tables.exec = Jvm.exec) (hZ : Z.Warmed39 s.vm) (eT : T.heap = h) {a : Addr} {vs : List Value} (A : own_Al Z h a .long vs) {j : Int32} {v : Value} (i : Nat) {g g' : JFrame} {rest : List Value} (hd : decode c.code g.pc = .ok (.laload, 1)) (hj : j.toInt = i) (hi : vs[i]? = some v) (hg : g.method = m) (hs : g.stack = .int j :: .ref a :: rest) (hg' : { g with pc := g.pc + 1, stack := v :: rest } = g')
    (k : own_Ends p e below s Q kc ks (T.setTop g')) : own_Ends p e below s Q kc ks (T.setTop g) := by
  subst hg'
  obtain ⟨cl, A, hv, hl⟩ := A
  exact own_up (fun t => X.laload hx (by rw [eT]; exact A.1) (State.isArrayOf_alike hZ.alike A.2.1) A.2.2 (own_in (ty := .long) hv hj (List.getElem?_eq_some_iff.mp hi).1) (own_at hv hj hi) hg hs hd t) k
theorem own_ldb (X : Stand p l e R s m args below meth c T locs cells slots) (hx : p.tables.exec = Jvm.exec) (hZ : Z.Warmed39 s.vm) (eT : T.heap = h) {a : Addr} {vs : List Value} (A : own_Al Z h a .byte vs) {j : Int32} {v : Value} (i : Nat) {g g' : JFrame} {rest : List Value} (hd : decode c.code g.pc = .ok (.baload, 1)) (hj : j.toInt = i) (hi : vs[i]? = some v) (hg : g.method = m) (hs : g.stack = .int j :: .ref a :: rest) (hg' : { g with pc := g.pc + 1, stack := v :: rest } = g')
    (k : own_Ends p e below s Q kc ks (T.setTop g')) : own_Ends p e below s Q kc ks (T.setTop g) := by
  subst hg'
  obtain ⟨cl, A, hv, hl⟩ := A
  exact own_up (fun t => X.baloadBytes hx (by rw [eT]; exact A.1) (State.isArrayOf_alike hZ.alike A.2.1) A.2.2 (own_in (ty := .byte) hv hj (List.getElem?_eq_some_iff.mp hi).1) (own_at hv hj hi) hg hs hd t) k
theorem own_len (X : Stand p l e R s m args below meth c T locs cells slots) (hx : p.tables.exec = Jvm.exec) (hZ : Z.Warmed39 s.vm) (eT : T.heap = h) {a : Addr} {ty : FieldType} {vs : List Value} (A : own_Al Z h a ty vs) {g g' : JFrame} {rest : List Value} (z : Int32) (hd : decode c.code g.pc = .ok (.arraylength, 1)) (hz : z.toInt = vs.length) (hg : g.method = m) (hs : g.stack = .ref a :: rest) (hg' : { g with pc := g.pc + 1, stack := .int z :: rest } = g')
    (k : own_Ends p e below s Q kc ks (T.setTop g')) : own_Ends p e below s Q kc ks (T.setTop g) := by
  subst hg'
  obtain ⟨cl, A, hv, hl⟩ := A
  have q : cl.slots.size.toInt32 = z := by
    apply Int32.toInt_inj.mp
    have h2 : cl.slots.size = vs.length := by rw [← hv]; simp
    rw [hz, h2, len_toInt hl]
  exact own_up (fun t => X.arraylength hx (by rw [eT]; exact A.1) (State.isArrayOf_alike hZ.alike A.2.1) hg hs hd t) (by rw [q]; exact k)
end Own
theorem own_pd0 : parseMethodDescriptor "()V" = some ⟨[], none⟩ := by decide +kernel
theorem own_pd1 : parseMethodDescriptor "([I[J)V" = some ⟨[(.array .int), (.array .long)], none⟩ := by decide +kernel
theorem own_pd2 : parseMethodDescriptor "([J)V" = some ⟨[(.array .long)], none⟩ := by decide +kernel
theorem d1_0 : decode jdk_30_method_1_code 0 = .ok (.aload_n 0, 1) := by decide +kernel
theorem d1_1 : decode jdk_30_method_1_code 1 = .ok (.invokespecial 1, 3) := by decide +kernel
theorem d1_4 : decode jdk_30_method_1_code 4 = .ok (.return_, 1) := by decide +kernel
def own_R1 : Room := { frames := 1, cells := 0, slots := 0, locals := 12 }
theorem own_ef1 (oo : Addr) (m : MethodId) : entryFrame m #[(.ref oo)] 1 = mkF m 0 #[.val (.ref oo)] [] := by first | (simp [entryFrame, mkF, argsToLocals, Value.category]; done) | rfl
def own_Q1 (Z : State) (oo : Addr)  (h0 : Heap) (n0 : Nat) (v : Option Value) (h : Heap) (L : List Loc) : Prop := v = none ∧ Fr n0 L ∧ h = h0
set_option maxRecDepth 65536 in
set_option maxHeartbeats 40000000 in
theorem rm1 (l : Launch) (Z : State) (a0 : Array Value) (hw : ∀ d ∈ tables_1, d.before a0 Z = true) (ws : List Jvm.Cond) (oo : Addr)  (h0 : Heap) (n0 : Nat) (Z0 : n0 ≤ h0.size)  :
    MetFree l (⟨"java/lang/Record", "<init>", "()V"⟩ : MethodName) (head1 (Jvm.Cond.code (⟨"java/lang/Record", "<init>", "()V"⟩ : MethodName) jdk_30_method_1_code 1 none :: ws) own_R1) (fun a U => a = #[(.ref oo)] ∧ Z.Warmed39 U.vm ∧ U.heap = h0) (fun _ _ _ _ _ => True) (fun _ U o U' => ∃ v L, o = .returned v ∧ own_Q1 Z oo h0 n0 v U'.heap L ∧ FrameEnd U o U' L own_R1.cells own_R1.slots) := by
  refine own_met (Q := own_Q1 Z oo h0 n0) (plainFor_of_name (by first | (simp [plainName, overriddenIn]; done) | decide +kernel)) (own_ef1 oo) ?_
  intro p e s m below meth c T0 hx hby hml hown hnm hret hlk hZ e0 X0
  have N0 := Fr.nil n0
  refine own_up (S' := T0.setTop (mkF m 1 #[.val (.ref oo)] [(.ref oo)])) (fun t stp => XS.aloadN X0.here hx rfl (hb hby d1_0) rfl rfl stp) ?_
  refine own_init X0 hx hZ hown (hw _ (List.mem_of_getElem? (i := 13) rfl)) (hw _ (List.mem_of_getElem? (i := 14) rfl)) (hw _ (List.mem_of_getElem? (i := 15) rfl)) e0 0 (g' := (mkF m 4 #[.val (.ref oo)] [])) (hb hby d1_1) (by decide) (by decide) rfl (by rw [hml]; rfl) rfl (by show 2 * 0 + _ ≤ _; exact Nat.le_of_eq rfl) rfl ?_
  intro T1 X1 e1
  refine own_retV X1 hx hlk hret (hb hby d1_4) (by decide) (by decide) ?_
  show own_Q1 Z oo h0 n0 _ T1.heap _
  rw [e1]
  exact ⟨rfl, N0, rfl⟩
theorem d2_0 : decode prog_26_method_1_code 0 = .ok (.aload_n 0, 1) := by decide +kernel
theorem d2_1 : decode prog_26_method_1_code 1 = .ok (.invokespecial 1, 3) := by decide +kernel
theorem d2_4 : decode prog_26_method_1_code 4 = .ok (.aload_n 0, 1) := by decide +kernel
theorem d2_5 : decode prog_26_method_1_code 5 = .ok (.aload_n 1, 1) := by decide +kernel
theorem d2_6 : decode prog_26_method_1_code 6 = .ok (.putfield 7, 3) := by decide +kernel
theorem d2_9 : decode prog_26_method_1_code 9 = .ok (.aload_n 0, 1) := by decide +kernel
theorem d2_10 : decode prog_26_method_1_code 10 = .ok (.aload_n 2, 1) := by decide +kernel
theorem d2_11 : decode prog_26_method_1_code 11 = .ok (.putfield 13, 3) := by decide +kernel
theorem d2_14 : decode prog_26_method_1_code 14 = .ok (.return_, 1) := by decide +kernel
def own_R2 : Room := { frames := 2, cells := 0, slots := 0, locals := 24 }
theorem own_ef2 (oo : Addr) (p1 : Addr) (p2 : Addr) (m : MethodId) : entryFrame m #[(.ref oo), (.ref p1), (.ref p2)] 3 = mkF m 0 #[.val (.ref oo), .val (.ref p1), .val (.ref p2)] [] := by first | (simp [entryFrame, mkF, argsToLocals, Value.category]; done) | rfl
def own_Q2 (Z : State) (oo : Addr) (p1 : Addr) (p2 : Addr)  (h0 : Heap) (n0 : Nat) (v : Option Value) (h : Heap) (L : List Loc) : Prop := v = none ∧ Fr n0 L ∧ Keep h0 h [oo] ∧ Fld Z h oo "com/example/outcry/outcry/combinatorial/Bundle" "resources" "[I" (.ref p1) ∧ Fld Z h oo "com/example/outcry/outcry/combinatorial/Bundle" "units" "[J" (.ref p2)
set_option maxRecDepth 65536 in
set_option maxHeartbeats 40000000 in
theorem rm2 (l : Launch) (Z : State) (a0 : Array Value) (hw : ∀ d ∈ tables_1, d.before a0 Z = true) (ws : List Jvm.Cond) (oo : Addr) (p1 : Addr) (p2 : Addr)  (h0 : Heap) (n0 : Nat) (Z0 : n0 ≤ h0.size) (Fr0 : Fld Z h0 oo "com/example/outcry/outcry/combinatorial/Bundle" "resources" "[I" .null) (Fu0 : Fld Z h0 oo "com/example/outcry/outcry/combinatorial/Bundle" "units" "[J" .null) (Et : Exa Z h0 oo "com/example/outcry/outcry/combinatorial/Bundle") (gt : n0 ≤ oo) :
    MetFree l (⟨"com/example/outcry/outcry/combinatorial/Bundle", "<init>", "([I[J)V"⟩ : MethodName) (head1 (Jvm.Cond.code (⟨"com/example/outcry/outcry/combinatorial/Bundle", "<init>", "([I[J)V"⟩ : MethodName) prog_26_method_1_code 3 none :: ws) own_R2) (fun a U => a = #[(.ref oo), (.ref p1), (.ref p2)] ∧ Z.Warmed39 U.vm ∧ U.heap = h0) (fun _ _ _ _ _ => True) (fun _ U o U' => ∃ v L, o = .returned v ∧ own_Q2 Z oo p1 p2 h0 n0 v U'.heap L ∧ FrameEnd U o U' L own_R2.cells own_R2.slots) := by
  refine own_met (Q := own_Q2 Z oo p1 p2 h0 n0) (plainFor_of_name (by first | (simp [plainName, overriddenIn]; done) | decide +kernel)) (own_ef2 oo p1 p2) ?_
  intro p e s m below meth c T0 hx hby hml hown hnm hret hlk hZ e0 X0
  have N0 := Fr.nil n0
  refine own_up (S' := T0.setTop (mkF m 1 #[.val (.ref oo), .val (.ref p1), .val (.ref p2)] [(.ref oo)])) (fun t stp => XS.aloadN X0.here hx rfl (hb hby d2_0) rfl rfl stp) ?_
  refine own_callI X0 hx hZ rfl hown (hw _ (List.mem_of_getElem? (i := 8) rfl)) (hw _ (List.mem_of_getElem? (i := 9) rfl)) (hw _ (List.mem_of_getElem? (i := 11) rfl)) (hw _ (List.mem_of_getElem? (i := 12) rfl)) (by decide) e0 (rm1 l Z a0 hw [] oo h0 n0 Z0 ) 0 oo [] [] (hb hby d2_1) (lenOf own_pd0 rfl) (by decide) (by decide) (by decide) (by decide) rfl (by rw [hml]; rfl) rfl (by show 2 * 0 + _ ≤ _; exact Nat.le_of_eq rfl) rfl ?_
  intro T1 L1 r1 X1 q1
  obtain ⟨rfl, M1, e1⟩ := q1
  have N1 := Fr.app N0 M1
  show own_Ends p e below s (own_Q2 Z oo p1 p2 h0 n0) own_R2.cells own_R2.slots (T1.setTop (mkF m 4 #[.val (.ref oo), .val (.ref p1), .val (.ref p2)] []))
  refine own_up (S' := T1.setTop (mkF m 5 #[.val (.ref oo), .val (.ref p1), .val (.ref p2)] [(.ref oo)])) (fun t stp => XS.aloadN X1.here hx rfl (hb hby d2_4) rfl rfl stp) ?_
  refine own_up (S' := T1.setTop (mkF m 6 #[.val (.ref oo), .val (.ref p1), .val (.ref p2)] [(.ref p1), (.ref oo)])) (fun t stp => XS.aloadN X1.here hx rfl (hb hby d2_5) rfl rfl stp) ?_
  refine own_put X1 hx hZ (.array .int) hown (hw _ (List.mem_of_getElem? (i := 16) rfl)) Via.refl e1 Fr0 Et (Or.inr ⟨(hw _ (List.mem_of_getElem? (i := 17) rfl)), rfl, hnm⟩) (hw _ (List.mem_of_getElem? (i := 3) rfl)) (by decide) (v' := (.ref p1)) (rfl) (rfl) (g' := (mkF m 9 #[.val (.ref oo), .val (.ref p1), .val (.ref p2)] [])) (hb hby d2_6) rfl rfl rfl ?_
  intro T2 h2 X2 e2 W2
  have Zn3 := Nat.le_trans Z0 (Nat.le_of_eq W2.size.symm)
  have Fu0_4 := Fu0.other W2 (Or.inr (slot_ne (Or.inr (hw _ (List.mem_of_getElem? (i := 19) rfl))) (Or.inr (hw _ (List.mem_of_getElem? (i := 17) rfl))) (by decide) (t := (.array .long)) (t' := (.array .int)) (by decide) (by decide)))
  have Et_4 := Et.wr W2
  have Kp5 := (Keep.refl h0 [oo]).wr W2 (Or.inl (List.mem_of_getElem? (i := 0) rfl))
  have N2 := Fr.snoc X2 N1 gt
  have Fresources_2 := Fr0.same W2
  refine own_up (S' := T2.setTop (mkF m 10 #[.val (.ref oo), .val (.ref p1), .val (.ref p2)] [(.ref oo)])) (fun t stp => XS.aloadN X2.here hx rfl (hb hby d2_9) rfl rfl stp) ?_
  refine own_up (S' := T2.setTop (mkF m 11 #[.val (.ref oo), .val (.ref p1), .val (.ref p2)] [(.ref p2), (.ref oo)])) (fun t stp => XS.aloadN X2.here hx rfl (hb hby d2_10) rfl rfl stp) ?_
  refine own_put X2 hx hZ (.array .long) hown (hw _ (List.mem_of_getElem? (i := 18) rfl)) Via.refl e2 Fu0_4 Et_4 (Or.inr ⟨(hw _ (List.mem_of_getElem? (i := 19) rfl)), rfl, hnm⟩) (hw _ (List.mem_of_getElem? (i := 3) rfl)) (by decide) (v' := (.ref p2)) (rfl) (rfl) (g' := (mkF m 14 #[.val (.ref oo), .val (.ref p1), .val (.ref p2)] [])) (hb hby d2_11) rfl rfl rfl ?_
  intro T6 h6 X6 e6 W6
  have Zn7 := Nat.le_trans Zn3 (Nat.le_of_eq W6.size.symm)
  have Fresources_8 := Fresources_2.other W6 (Or.inr (slot_ne (Or.inr (hw _ (List.mem_of_getElem? (i := 17) rfl))) (Or.inr (hw _ (List.mem_of_getElem? (i := 19) rfl))) (by decide) (t := (.array .int)) (t' := (.array .long)) (by decide) (by decide)))
  have Et_8 := Et_4.wr W6
  have Kp9 := Kp5.wr W6 (Or.inl (List.mem_of_getElem? (i := 0) rfl))
  have N6 := Fr.snoc X6 N2 gt
  have Funits_6 := Fu0_4.same W6
  refine own_retV X6 hx hlk hret (hb hby d2_14) (by decide) (by decide) ?_
  show own_Q2 Z oo p1 p2 h0 n0 _ T6.heap _
  rw [e6]
  exact ⟨rfl, N6, Kp9, Fresources_8, Funits_6⟩
theorem d10_0 : decode prog_26_method_4_code 0 = .ok (.iconst 0, 1) := by decide +kernel
theorem d10_1 : decode prog_26_method_4_code 1 = .ok (.istore_n 2, 1) := by decide +kernel
theorem d10_2 : decode prog_26_method_4_code 2 = .ok (.iload_n 2, 1) := by decide +kernel
theorem d10_3 : decode prog_26_method_4_code 3 = .ok (.aload_n 0, 1) := by decide +kernel
theorem d10_4 : decode prog_26_method_4_code 4 = .ok (.getfield 7, 3) := by decide +kernel
theorem d10_7 : decode prog_26_method_4_code 7 = .ok (.arraylength, 1) := by decide +kernel
theorem d10_8 : decode prog_26_method_4_code 8 = .ok (.if_icmp .ge 26, 3) := by decide +kernel
theorem d10_34 : decode prog_26_method_4_code 34 = .ok (.return_, 1) := by decide +kernel
def own_R10 : Room := { frames := 0, cells := 0, slots := 0, locals := 0 }
theorem own_ef10 (oo : Addr) (p1 : Addr) (m : MethodId) : entryFrame m #[(.ref oo), (.ref p1)] 3 = mkF m 0 #[.val (.ref oo), .val (.ref p1), .unset] [] := by first | (simp [entryFrame, mkF, argsToLocals, Value.category]; done) | rfl
def own_Q10 (Z : State) (oo : Addr) (p1 : Addr) (ra : Addr) (ua : Addr) (vs : List Value) (h0 : Heap) (n0 : Nat) (v : Option Value) (h : Heap) (L : List Loc) : Prop := v = none ∧ Fr n0 L ∧ Keep h0 h [p1] ∧ own_Al Z h p1 .long vs
set_option maxRecDepth 65536 in
set_option maxHeartbeats 40000000 in
theorem rm10 (l : Launch) (Z : State) (a0 : Array Value) (hw : ∀ d ∈ tables_1, d.before a0 Z = true) (ws : List Jvm.Cond) (oo : Addr) (p1 : Addr) (ra : Addr) (ua : Addr) (vs : List Value) (h0 : Heap) (n0 : Nat) (Z0 : n0 ≤ h0.size) (Frs : Fld Z h0 oo "com/example/outcry/outcry/combinatorial/Bundle" "resources" "[I" (.ref ra)) (Fus : Fld Z h0 oo "com/example/outcry/outcry/combinatorial/Bundle" "units" "[J" (.ref ua)) (Ara : own_Al Z h0 ra .int []) (Aua : own_Al Z h0 ua .long []) (Ale : own_Al Z h0 p1 .long vs) (gp1 : n0 ≤ p1) (ner : ra ≠ p1) (neu : ua ≠ p1) (neo : oo ≠ p1) :
    MetFree l (⟨"com/example/outcry/outcry/combinatorial/Bundle", "take", "([J)V"⟩ : MethodName) (head1 (Jvm.Cond.code (⟨"com/example/outcry/outcry/combinatorial/Bundle", "take", "([J)V"⟩ : MethodName) prog_26_method_4_code 3 none :: ws) own_R10) (fun a U => a = #[(.ref oo), (.ref p1)] ∧ Z.Warmed39 U.vm ∧ U.heap = h0) (fun _ _ _ _ _ => True) (fun _ U o U' => ∃ v L, o = .returned v ∧ own_Q10 Z oo p1 ra ua vs h0 n0 v U'.heap L ∧ FrameEnd U o U' L own_R10.cells own_R10.slots) := by
  refine own_met (Q := own_Q10 Z oo p1 ra ua vs h0 n0) (plainFor_of_name (by first | (simp [plainName, overriddenIn]; done) | decide +kernel)) (own_ef10 oo p1) ?_
  intro p e s m below meth c T0 hx hby hml hown hnm hret hlk hZ e0 X0
  have N0 := Fr.nil n0
  refine own_up (S' := T0.setTop (mkF m 1 #[.val (.ref oo), .val (.ref p1), .unset] [(.int (0 : Int32))])) (fun t stp => XT.iconstV X0.here hx rfl (0 : Int32) (hb hby d10_0) rfl stp) ?_
  refine own_up (S' := T0.setTop (mkF m 2 #[.val (.ref oo), .val (.ref p1), .val (.int (0 : Int32))] [])) (fun t stp => XS.istoreN X0.here hx rfl (hb hby d10_1) rfl (l' := #[.val (.ref oo), .val (.ref p1), .val (.int (0 : Int32))]) rfl stp) ?_
  refine own_up (S' := T0.setTop (mkF m 3 #[.val (.ref oo), .val (.ref p1), .val (.int (0 : Int32))] [(.int (0 : Int32))])) (fun t stp => XS.iloadN X0.here hx rfl (hb hby d10_2) rfl stp) ?_
  refine own_up (S' := T0.setTop (mkF m 4 #[.val (.ref oo), .val (.ref p1), .val (.int (0 : Int32))] [(.ref oo), (.int (0 : Int32))])) (fun t stp => XS.aloadN X0.here hx rfl (hb hby d10_3) rfl rfl stp) ?_
  refine own_get X0 hx hZ hown (hw _ (List.mem_of_getElem? (i := 16) rfl)) Via.refl e0 Frs (g' := (mkF m 7 #[.val (.ref oo), .val (.ref p1), .val (.int (0 : Int32))] [(.ref ra), (.int (0 : Int32))])) (hb hby d10_4) rfl rfl rfl ?_
  intro T1 X1 e1
  refine own_len X1 hx hZ e1 Ara (0 : Int32) (hb hby d10_7) (rfl) rfl rfl (g' := (mkF m 8 #[.val (.ref oo), .val (.ref p1), .val (.int (0 : Int32))] [(.int (0 : Int32)), (.int (0 : Int32))])) rfl ?_
  have hc8_2 : ¬ ((0 : Int32) < (0 : Int32)) := by decide
  refine own_up (S' := T1.setTop (mkF m 34 #[.val (.ref oo), .val (.ref p1), .val (.int (0 : Int32))] [])) (fun t stp => XS.icmpYes X1.here hx rfl (pc0 := 8) (pc' := 34) rfl (hb hby d10_8) rfl (XT.ii_ge_t hc8_2) (by decide) (by decide) stp) ?_
  refine own_retV X1 hx hlk hret (hb hby d10_34) (by decide) (by decide) ?_
  show own_Q10 Z oo p1 ra ua vs h0 n0 _ T1.heap _
  rw [e1]
  exact ⟨rfl, N0, Keep.refl h0 [p1], Ale⟩
theorem d11_0 : decode prog_26_method_4_code 0 = .ok (.iconst 0, 1) := by decide +kernel
theorem d11_1 : decode prog_26_method_4_code 1 = .ok (.istore_n 2, 1) := by decide +kernel
theorem d11_2 : decode prog_26_method_4_code 2 = .ok (.iload_n 2, 1) := by decide +kernel
theorem d11_3 : decode prog_26_method_4_code 3 = .ok (.aload_n 0, 1) := by decide +kernel
theorem d11_4 : decode prog_26_method_4_code 4 = .ok (.getfield 7, 3) := by decide +kernel
theorem d11_7 : decode prog_26_method_4_code 7 = .ok (.arraylength, 1) := by decide +kernel
theorem d11_8 : decode prog_26_method_4_code 8 = .ok (.if_icmp .ge 26, 3) := by decide +kernel
theorem d11_11 : decode prog_26_method_4_code 11 = .ok (.aload_n 1, 1) := by decide +kernel
theorem d11_12 : decode prog_26_method_4_code 12 = .ok (.aload_n 0, 1) := by decide +kernel
theorem d11_13 : decode prog_26_method_4_code 13 = .ok (.getfield 7, 3) := by decide +kernel
theorem d11_16 : decode prog_26_method_4_code 16 = .ok (.iload_n 2, 1) := by decide +kernel
theorem d11_17 : decode prog_26_method_4_code 17 = .ok (.iaload, 1) := by decide +kernel
theorem d11_18 : decode prog_26_method_4_code 18 = .ok (.dup2, 1) := by decide +kernel
theorem d11_19 : decode prog_26_method_4_code 19 = .ok (.laload, 1) := by decide +kernel
theorem d11_20 : decode prog_26_method_4_code 20 = .ok (.aload_n 0, 1) := by decide +kernel
theorem d11_21 : decode prog_26_method_4_code 21 = .ok (.getfield 13, 3) := by decide +kernel
theorem d11_24 : decode prog_26_method_4_code 24 = .ok (.iload_n 2, 1) := by decide +kernel
theorem d11_25 : decode prog_26_method_4_code 25 = .ok (.laload, 1) := by decide +kernel
theorem d11_26 : decode prog_26_method_4_code 26 = .ok (.lsub, 1) := by decide +kernel
theorem d11_27 : decode prog_26_method_4_code 27 = .ok (.lastore, 1) := by decide +kernel
theorem d11_28 : decode prog_26_method_4_code 28 = .ok (.iinc 2 1, 3) := by decide +kernel
theorem d11_31 : decode prog_26_method_4_code 31 = .ok (.goto (-29), 3) := by decide +kernel
theorem d11_34 : decode prog_26_method_4_code 34 = .ok (.return_, 1) := by decide +kernel
def own_R11 : Room := { frames := 0, cells := 0, slots := 0, locals := 0 }
theorem own_ef11 (oo : Addr) (p1 : Addr) (m : MethodId) : entryFrame m #[(.ref oo), (.ref p1)] 3 = mkF m 0 #[.val (.ref oo), .val (.ref p1), .unset] [] := by first | (simp [entryFrame, mkF, argsToLocals, Value.category]; done) | rfl
def own_Q11 (Z : State) (oo : Addr) (p1 : Addr) (ra : Addr) (ua : Addr) (vs : List Value) (s0 : Int32) (u0 : Int64) (ix0 : Nat) (z0 : Int64) (h0 : Heap) (n0 : Nat) (v : Option Value) (h : Heap) (L : List Loc) : Prop := v = none ∧ Fr n0 L ∧ Keep h0 h [p1] ∧ own_Al Z h p1 .long (vs.set ix0 (.long (z0 - u0)))
set_option maxRecDepth 65536 in
set_option maxHeartbeats 40000000 in
theorem rm11 (l : Launch) (Z : State) (a0 : Array Value) (hw : ∀ d ∈ tables_1, d.before a0 Z = true) (ws : List Jvm.Cond) (oo : Addr) (p1 : Addr) (ra : Addr) (ua : Addr) (vs : List Value) (s0 : Int32) (u0 : Int64) (ix0 : Nat) (z0 : Int64) (h0 : Heap) (n0 : Nat) (Z0 : n0 ≤ h0.size) (Frs : Fld Z h0 oo "com/example/outcry/outcry/combinatorial/Bundle" "resources" "[I" (.ref ra)) (Fus : Fld Z h0 oo "com/example/outcry/outcry/combinatorial/Bundle" "units" "[J" (.ref ua)) (Ara : own_Al Z h0 ra .int [(.int s0)]) (Aua : own_Al Z h0 ua .long [(.long u0)]) (Ale : own_Al Z h0 p1 .long vs) (gp1 : n0 ≤ p1) (ner : ra ≠ p1) (neu : ua ≠ p1) (neo : oo ≠ p1) (hs0 : s0.toInt = (ix0 : Int)) (hz0 : vs[ix0]? = some (.long z0)) :
    MetFree l (⟨"com/example/outcry/outcry/combinatorial/Bundle", "take", "([J)V"⟩ : MethodName) (head1 (Jvm.Cond.code (⟨"com/example/outcry/outcry/combinatorial/Bundle", "take", "([J)V"⟩ : MethodName) prog_26_method_4_code 3 none :: ws) own_R11) (fun a U => a = #[(.ref oo), (.ref p1)] ∧ Z.Warmed39 U.vm ∧ U.heap = h0) (fun _ _ _ _ _ => True) (fun _ U o U' => ∃ v L, o = .returned v ∧ own_Q11 Z oo p1 ra ua vs s0 u0 ix0 z0 h0 n0 v U'.heap L ∧ FrameEnd U o U' L own_R11.cells own_R11.slots) := by
  refine own_met (Q := own_Q11 Z oo p1 ra ua vs s0 u0 ix0 z0 h0 n0) (plainFor_of_name (by first | (simp [plainName, overriddenIn]; done) | decide +kernel)) (own_ef11 oo p1) ?_
  intro p e s m below meth c T0 hx hby hml hown hnm hret hlk hZ e0 X0
  have N0 := Fr.nil n0
  refine own_up (S' := T0.setTop (mkF m 1 #[.val (.ref oo), .val (.ref p1), .unset] [(.int (0 : Int32))])) (fun t stp => XT.iconstV X0.here hx rfl (0 : Int32) (hb hby d11_0) rfl stp) ?_
  refine own_up (S' := T0.setTop (mkF m 2 #[.val (.ref oo), .val (.ref p1), .val (.int (0 : Int32))] [])) (fun t stp => XS.istoreN X0.here hx rfl (hb hby d11_1) rfl (l' := #[.val (.ref oo), .val (.ref p1), .val (.int (0 : Int32))]) rfl stp) ?_
  refine own_up (S' := T0.setTop (mkF m 3 #[.val (.ref oo), .val (.ref p1), .val (.int (0 : Int32))] [(.int (0 : Int32))])) (fun t stp => XS.iloadN X0.here hx rfl (hb hby d11_2) rfl stp) ?_
  refine own_up (S' := T0.setTop (mkF m 4 #[.val (.ref oo), .val (.ref p1), .val (.int (0 : Int32))] [(.ref oo), (.int (0 : Int32))])) (fun t stp => XS.aloadN X0.here hx rfl (hb hby d11_3) rfl rfl stp) ?_
  refine own_get X0 hx hZ hown (hw _ (List.mem_of_getElem? (i := 16) rfl)) Via.refl e0 Frs (g' := (mkF m 7 #[.val (.ref oo), .val (.ref p1), .val (.int (0 : Int32))] [(.ref ra), (.int (0 : Int32))])) (hb hby d11_4) rfl rfl rfl ?_
  intro T1 X1 e1
  refine own_len X1 hx hZ e1 Ara (1 : Int32) (hb hby d11_7) (rfl) rfl rfl (g' := (mkF m 8 #[.val (.ref oo), .val (.ref p1), .val (.int (0 : Int32))] [(.int (1 : Int32)), (.int (0 : Int32))])) rfl ?_
  have hc8_2 : (0 : Int32) < (1 : Int32) := by decide
  refine own_up (S' := T1.setTop (mkF m 11 #[.val (.ref oo), .val (.ref p1), .val (.int (0 : Int32))] [])) (fun t stp => XS.icmpNo X1.here hx rfl (hb hby d11_8) rfl (XT.ii_ge_f hc8_2) stp) ?_
  refine own_up (S' := T1.setTop (mkF m 12 #[.val (.ref oo), .val (.ref p1), .val (.int (0 : Int32))] [(.ref p1)])) (fun t stp => XS.aloadN X1.here hx rfl (hb hby d11_11) rfl rfl stp) ?_
  refine own_up (S' := T1.setTop (mkF m 13 #[.val (.ref oo), .val (.ref p1), .val (.int (0 : Int32))] [(.ref oo), (.ref p1)])) (fun t stp => XS.aloadN X1.here hx rfl (hb hby d11_12) rfl rfl stp) ?_
  refine own_get X1 hx hZ hown (hw _ (List.mem_of_getElem? (i := 16) rfl)) Via.refl e1 Frs (g' := (mkF m 16 #[.val (.ref oo), .val (.ref p1), .val (.int (0 : Int32))] [(.ref ra), (.ref p1)])) (hb hby d11_13) rfl rfl rfl ?_
  intro T3 X3 e3
  refine own_up (S' := T3.setTop (mkF m 17 #[.val (.ref oo), .val (.ref p1), .val (.int (0 : Int32))] [(.int (0 : Int32)), (.ref ra), (.ref p1)])) (fun t stp => XS.iloadN X3.here hx rfl (hb hby d11_16) rfl stp) ?_
  refine own_ldi X3 hx hZ e3 Ara (v := (.int s0)) 0 (hb hby d11_17) (rfl) (rfl) rfl rfl (g' := (mkF m 18 #[.val (.ref oo), .val (.ref p1), .val (.int (0 : Int32))] [(.int s0), (.ref p1)])) rfl ?_
  refine own_up (S' := T3.setTop (mkF m 19 #[.val (.ref oo), .val (.ref p1), .val (.int (0 : Int32))] [(.int s0), (.ref p1), (.int s0), (.ref p1)])) (fun t stp => XT.dup2 X3.here hx rfl (hb hby d11_18) rfl rfl rfl stp) ?_
  refine own_ldj X3 hx hZ e3 Ale (v := (.long z0)) ix0 (hb hby d11_19) (hs0) (hz0) rfl rfl (g' := (mkF m 20 #[.val (.ref oo), .val (.ref p1), .val (.int (0 : Int32))] [(.long z0), (.int s0), (.ref p1)])) rfl ?_
  refine own_up (S' := T3.setTop (mkF m 21 #[.val (.ref oo), .val (.ref p1), .val (.int (0 : Int32))] [(.ref oo), (.long z0), (.int s0), (.ref p1)])) (fun t stp => XS.aloadN X3.here hx rfl (hb hby d11_20) rfl rfl stp) ?_
  refine own_get X3 hx hZ hown (hw _ (List.mem_of_getElem? (i := 18) rfl)) Via.refl e3 Fus (g' := (mkF m 24 #[.val (.ref oo), .val (.ref p1), .val (.int (0 : Int32))] [(.ref ua), (.long z0), (.int s0), (.ref p1)])) (hb hby d11_21) rfl rfl rfl ?_
  intro T4 X4 e4
  refine own_up (S' := T4.setTop (mkF m 25 #[.val (.ref oo), .val (.ref p1), .val (.int (0 : Int32))] [(.int (0 : Int32)), (.ref ua), (.long z0), (.int s0), (.ref p1)])) (fun t stp => XS.iloadN X4.here hx rfl (hb hby d11_24) rfl stp) ?_
  refine own_ldj X4 hx hZ e4 Aua (v := (.long u0)) 0 (hb hby d11_25) (rfl) (rfl) rfl rfl (g' := (mkF m 26 #[.val (.ref oo), .val (.ref p1), .val (.int (0 : Int32))] [(.long u0), (.long z0), (.int s0), (.ref p1)])) rfl ?_
  refine own_up (S' := T4.setTop (mkF m 27 #[.val (.ref oo), .val (.ref p1), .val (.int (0 : Int32))] [(.long (z0 - u0)), (.int s0), (.ref p1)])) (fun t stp => XT.lsub X4.here hx rfl (hb hby d11_26) rfl stp) ?_
  refine own_stj X4 hx hZ e4 Ale ix0 (hb hby d11_27) (hs0) ((List.getElem?_eq_some_iff.mp hz0).1) rfl rfl (g' := (mkF m 28 #[.val (.ref oo), .val (.ref p1), .val (.int (0 : Int32))] [])) rfl ?_
  intro T5 h5 X5 e5 W5 B5
  have Zn6 := Nat.le_trans Z0 (Nat.le_of_eq W5.size.symm)
  have Frs_7 := Frs.other W5 (Or.inl neo)
  have Fus_7 := Fus.other W5 (Or.inl neo)
  have Ara_7 := own_Al_oth W5 Ara ner
  have Aua_7 := own_Al_oth W5 Aua neu
  have Kp8 := (Keep.refl h0 [p1]).wr W5 (Or.inl (List.mem_of_getElem? (i := 0) rfl))
  have N5 := Fr.snoc X5 N0 gp1
  refine own_up (S' := T5.setTop (mkF m 31 #[.val (.ref oo), .val (.ref p1), .val (.int (1 : Int32))] [])) (fun t stp => XT.iincV X5.here hx rfl (1 : Int32) (hb hby d11_28) rfl rfl (l' := #[.val (.ref oo), .val (.ref p1), .val (.int (1 : Int32))]) rfl stp) ?_
  refine own_up (S' := T5.setTop (mkF m 2 #[.val (.ref oo), .val (.ref p1), .val (.int (1 : Int32))] [])) (fun t stp => XS.goto X5.here hx rfl (pc0 := 31) (pc' := 2) rfl (hb hby d11_31) (by decide) (by decide) stp) ?_
  refine own_up (S' := T5.setTop (mkF m 3 #[.val (.ref oo), .val (.ref p1), .val (.int (1 : Int32))] [(.int (1 : Int32))])) (fun t stp => XS.iloadN X5.here hx rfl (hb hby d11_2) rfl stp) ?_
  refine own_up (S' := T5.setTop (mkF m 4 #[.val (.ref oo), .val (.ref p1), .val (.int (1 : Int32))] [(.ref oo), (.int (1 : Int32))])) (fun t stp => XS.aloadN X5.here hx rfl (hb hby d11_3) rfl rfl stp) ?_
  refine own_get X5 hx hZ hown (hw _ (List.mem_of_getElem? (i := 16) rfl)) Via.refl e5 Frs_7 (g' := (mkF m 7 #[.val (.ref oo), .val (.ref p1), .val (.int (1 : Int32))] [(.ref ra), (.int (1 : Int32))])) (hb hby d11_4) rfl rfl rfl ?_
  intro T9 X9 e9
  refine own_len X9 hx hZ e9 Ara_7 (1 : Int32) (hb hby d11_7) (rfl) rfl rfl (g' := (mkF m 8 #[.val (.ref oo), .val (.ref p1), .val (.int (1 : Int32))] [(.int (1 : Int32)), (.int (1 : Int32))])) rfl ?_
  have hc8_10 : ¬ ((1 : Int32) < (1 : Int32)) := by decide
  refine own_up (S' := T9.setTop (mkF m 34 #[.val (.ref oo), .val (.ref p1), .val (.int (1 : Int32))] [])) (fun t stp => XS.icmpYes X9.here hx rfl (pc0 := 8) (pc' := 34) rfl (hb hby d11_8) rfl (XT.ii_ge_t hc8_10) (by decide) (by decide) stp) ?_
  refine own_retV X9 hx hlk hret (hb hby d11_34) (by decide) (by decide) ?_
  show own_Q11 Z oo p1 ra ua vs s0 u0 ix0 z0 h0 n0 _ T9.heap _
  rw [e9]
  exact ⟨rfl, N5, Kp8, B5⟩
theorem d12_0 : decode prog_26_method_4_code 0 = .ok (.iconst 0, 1) := by decide +kernel
theorem d12_1 : decode prog_26_method_4_code 1 = .ok (.istore_n 2, 1) := by decide +kernel
theorem d12_2 : decode prog_26_method_4_code 2 = .ok (.iload_n 2, 1) := by decide +kernel
theorem d12_3 : decode prog_26_method_4_code 3 = .ok (.aload_n 0, 1) := by decide +kernel
theorem d12_4 : decode prog_26_method_4_code 4 = .ok (.getfield 7, 3) := by decide +kernel
theorem d12_7 : decode prog_26_method_4_code 7 = .ok (.arraylength, 1) := by decide +kernel
theorem d12_8 : decode prog_26_method_4_code 8 = .ok (.if_icmp .ge 26, 3) := by decide +kernel
theorem d12_11 : decode prog_26_method_4_code 11 = .ok (.aload_n 1, 1) := by decide +kernel
theorem d12_12 : decode prog_26_method_4_code 12 = .ok (.aload_n 0, 1) := by decide +kernel
theorem d12_13 : decode prog_26_method_4_code 13 = .ok (.getfield 7, 3) := by decide +kernel
theorem d12_16 : decode prog_26_method_4_code 16 = .ok (.iload_n 2, 1) := by decide +kernel
theorem d12_17 : decode prog_26_method_4_code 17 = .ok (.iaload, 1) := by decide +kernel
theorem d12_18 : decode prog_26_method_4_code 18 = .ok (.dup2, 1) := by decide +kernel
theorem d12_19 : decode prog_26_method_4_code 19 = .ok (.laload, 1) := by decide +kernel
theorem d12_20 : decode prog_26_method_4_code 20 = .ok (.aload_n 0, 1) := by decide +kernel
theorem d12_21 : decode prog_26_method_4_code 21 = .ok (.getfield 13, 3) := by decide +kernel
theorem d12_24 : decode prog_26_method_4_code 24 = .ok (.iload_n 2, 1) := by decide +kernel
theorem d12_25 : decode prog_26_method_4_code 25 = .ok (.laload, 1) := by decide +kernel
theorem d12_26 : decode prog_26_method_4_code 26 = .ok (.lsub, 1) := by decide +kernel
theorem d12_27 : decode prog_26_method_4_code 27 = .ok (.lastore, 1) := by decide +kernel
theorem d12_28 : decode prog_26_method_4_code 28 = .ok (.iinc 2 1, 3) := by decide +kernel
theorem d12_31 : decode prog_26_method_4_code 31 = .ok (.goto (-29), 3) := by decide +kernel
theorem d12_34 : decode prog_26_method_4_code 34 = .ok (.return_, 1) := by decide +kernel
def own_R12 : Room := { frames := 0, cells := 0, slots := 0, locals := 0 }
theorem own_ef12 (oo : Addr) (p1 : Addr) (m : MethodId) : entryFrame m #[(.ref oo), (.ref p1)] 3 = mkF m 0 #[.val (.ref oo), .val (.ref p1), .unset] [] := by first | (simp [entryFrame, mkF, argsToLocals, Value.category]; done) | rfl
def own_Q12 (Z : State) (oo : Addr) (p1 : Addr) (ra : Addr) (ua : Addr) (vs : List Value) (s0 : Int32) (u0 : Int64) (ix0 : Nat) (z0 : Int64) (s1 : Int32) (u1 : Int64) (ix1 : Nat) (z1 : Int64) (h0 : Heap) (n0 : Nat) (v : Option Value) (h : Heap) (L : List Loc) : Prop := v = none ∧ Fr n0 L ∧ Keep h0 h [p1] ∧ own_Al Z h p1 .long ((vs.set ix0 (.long (z0 - u0))).set ix1 (.long (z1 - u1)))
set_option maxRecDepth 65536 in
set_option maxHeartbeats 40000000 in
theorem rm12 (l : Launch) (Z : State) (a0 : Array Value) (hw : ∀ d ∈ tables_1, d.before a0 Z = true) (ws : List Jvm.Cond) (oo : Addr) (p1 : Addr) (ra : Addr) (ua : Addr) (vs : List Value) (s0 : Int32) (u0 : Int64) (ix0 : Nat) (z0 : Int64) (s1 : Int32) (u1 : Int64) (ix1 : Nat) (z1 : Int64) (h0 : Heap) (n0 : Nat) (Z0 : n0 ≤ h0.size) (Frs : Fld Z h0 oo "com/example/outcry/outcry/combinatorial/Bundle" "resources" "[I" (.ref ra)) (Fus : Fld Z h0 oo "com/example/outcry/outcry/combinatorial/Bundle" "units" "[J" (.ref ua)) (Ara : own_Al Z h0 ra .int [(.int s0), (.int s1)]) (Aua : own_Al Z h0 ua .long [(.long u0), (.long u1)]) (Ale : own_Al Z h0 p1 .long vs) (gp1 : n0 ≤ p1) (ner : ra ≠ p1) (neu : ua ≠ p1) (neo : oo ≠ p1) (hs0 : s0.toInt = (ix0 : Int)) (hz0 : vs[ix0]? = some (.long z0)) (hs1 : s1.toInt = (ix1 : Int)) (hz1 : (vs.set ix0 (.long (z0 - u0)))[ix1]? = some (.long z1)) :
    MetFree l (⟨"com/example/outcry/outcry/combinatorial/Bundle", "take", "([J)V"⟩ : MethodName) (head1 (Jvm.Cond.code (⟨"com/example/outcry/outcry/combinatorial/Bundle", "take", "([J)V"⟩ : MethodName) prog_26_method_4_code 3 none :: ws) own_R12) (fun a U => a = #[(.ref oo), (.ref p1)] ∧ Z.Warmed39 U.vm ∧ U.heap = h0) (fun _ _ _ _ _ => True) (fun _ U o U' => ∃ v L, o = .returned v ∧ own_Q12 Z oo p1 ra ua vs s0 u0 ix0 z0 s1 u1 ix1 z1 h0 n0 v U'.heap L ∧ FrameEnd U o U' L own_R12.cells own_R12.slots) := by
  refine own_met (Q := own_Q12 Z oo p1 ra ua vs s0 u0 ix0 z0 s1 u1 ix1 z1 h0 n0) (plainFor_of_name (by first | (simp [plainName, overriddenIn]; done) | decide +kernel)) (own_ef12 oo p1) ?_
  intro p e s m below meth c T0 hx hby hml hown hnm hret hlk hZ e0 X0
  have N0 := Fr.nil n0
  refine own_up (S' := T0.setTop (mkF m 1 #[.val (.ref oo), .val (.ref p1), .unset] [(.int (0 : Int32))])) (fun t stp => XT.iconstV X0.here hx rfl (0 : Int32) (hb hby d12_0) rfl stp) ?_
  refine own_up (S' := T0.setTop (mkF m 2 #[.val (.ref oo), .val (.ref p1), .val (.int (0 : Int32))] [])) (fun t stp => XS.istoreN X0.here hx rfl (hb hby d12_1) rfl (l' := #[.val (.ref oo), .val (.ref p1), .val (.int (0 : Int32))]) rfl stp) ?_
  refine own_up (S' := T0.setTop (mkF m 3 #[.val (.ref oo), .val (.ref p1), .val (.int (0 : Int32))] [(.int (0 : Int32))])) (fun t stp => XS.iloadN X0.here hx rfl (hb hby d12_2) rfl stp) ?_
  refine own_up (S' := T0.setTop (mkF m 4 #[.val (.ref oo), .val (.ref p1), .val (.int (0 : Int32))] [(.ref oo), (.int (0 : Int32))])) (fun t stp => XS.aloadN X0.here hx rfl (hb hby d12_3) rfl rfl stp) ?_
  refine own_get X0 hx hZ hown (hw _ (List.mem_of_getElem? (i := 16) rfl)) Via.refl e0 Frs (g' := (mkF m 7 #[.val (.ref oo), .val (.ref p1), .val (.int (0 : Int32))] [(.ref ra), (.int (0 : Int32))])) (hb hby d12_4) rfl rfl rfl ?_
  intro T1 X1 e1
  refine own_len X1 hx hZ e1 Ara (2 : Int32) (hb hby d12_7) (rfl) rfl rfl (g' := (mkF m 8 #[.val (.ref oo), .val (.ref p1), .val (.int (0 : Int32))] [(.int (2 : Int32)), (.int (0 : Int32))])) rfl ?_
  have hc8_2 : (0 : Int32) < (2 : Int32) := by decide
  refine own_up (S' := T1.setTop (mkF m 11 #[.val (.ref oo), .val (.ref p1), .val (.int (0 : Int32))] [])) (fun t stp => XS.icmpNo X1.here hx rfl (hb hby d12_8) rfl (XT.ii_ge_f hc8_2) stp) ?_
  refine own_up (S' := T1.setTop (mkF m 12 #[.val (.ref oo), .val (.ref p1), .val (.int (0 : Int32))] [(.ref p1)])) (fun t stp => XS.aloadN X1.here hx rfl (hb hby d12_11) rfl rfl stp) ?_
  refine own_up (S' := T1.setTop (mkF m 13 #[.val (.ref oo), .val (.ref p1), .val (.int (0 : Int32))] [(.ref oo), (.ref p1)])) (fun t stp => XS.aloadN X1.here hx rfl (hb hby d12_12) rfl rfl stp) ?_
  refine own_get X1 hx hZ hown (hw _ (List.mem_of_getElem? (i := 16) rfl)) Via.refl e1 Frs (g' := (mkF m 16 #[.val (.ref oo), .val (.ref p1), .val (.int (0 : Int32))] [(.ref ra), (.ref p1)])) (hb hby d12_13) rfl rfl rfl ?_
  intro T3 X3 e3
  refine own_up (S' := T3.setTop (mkF m 17 #[.val (.ref oo), .val (.ref p1), .val (.int (0 : Int32))] [(.int (0 : Int32)), (.ref ra), (.ref p1)])) (fun t stp => XS.iloadN X3.here hx rfl (hb hby d12_16) rfl stp) ?_
  refine own_ldi X3 hx hZ e3 Ara (v := (.int s0)) 0 (hb hby d12_17) (rfl) (rfl) rfl rfl (g' := (mkF m 18 #[.val (.ref oo), .val (.ref p1), .val (.int (0 : Int32))] [(.int s0), (.ref p1)])) rfl ?_
  refine own_up (S' := T3.setTop (mkF m 19 #[.val (.ref oo), .val (.ref p1), .val (.int (0 : Int32))] [(.int s0), (.ref p1), (.int s0), (.ref p1)])) (fun t stp => XT.dup2 X3.here hx rfl (hb hby d12_18) rfl rfl rfl stp) ?_
  refine own_ldj X3 hx hZ e3 Ale (v := (.long z0)) ix0 (hb hby d12_19) (hs0) (hz0) rfl rfl (g' := (mkF m 20 #[.val (.ref oo), .val (.ref p1), .val (.int (0 : Int32))] [(.long z0), (.int s0), (.ref p1)])) rfl ?_
  refine own_up (S' := T3.setTop (mkF m 21 #[.val (.ref oo), .val (.ref p1), .val (.int (0 : Int32))] [(.ref oo), (.long z0), (.int s0), (.ref p1)])) (fun t stp => XS.aloadN X3.here hx rfl (hb hby d12_20) rfl rfl stp) ?_
  refine own_get X3 hx hZ hown (hw _ (List.mem_of_getElem? (i := 18) rfl)) Via.refl e3 Fus (g' := (mkF m 24 #[.val (.ref oo), .val (.ref p1), .val (.int (0 : Int32))] [(.ref ua), (.long z0), (.int s0), (.ref p1)])) (hb hby d12_21) rfl rfl rfl ?_
  intro T4 X4 e4
  refine own_up (S' := T4.setTop (mkF m 25 #[.val (.ref oo), .val (.ref p1), .val (.int (0 : Int32))] [(.int (0 : Int32)), (.ref ua), (.long z0), (.int s0), (.ref p1)])) (fun t stp => XS.iloadN X4.here hx rfl (hb hby d12_24) rfl stp) ?_
  refine own_ldj X4 hx hZ e4 Aua (v := (.long u0)) 0 (hb hby d12_25) (rfl) (rfl) rfl rfl (g' := (mkF m 26 #[.val (.ref oo), .val (.ref p1), .val (.int (0 : Int32))] [(.long u0), (.long z0), (.int s0), (.ref p1)])) rfl ?_
  refine own_up (S' := T4.setTop (mkF m 27 #[.val (.ref oo), .val (.ref p1), .val (.int (0 : Int32))] [(.long (z0 - u0)), (.int s0), (.ref p1)])) (fun t stp => XT.lsub X4.here hx rfl (hb hby d12_26) rfl stp) ?_
  refine own_stj X4 hx hZ e4 Ale ix0 (hb hby d12_27) (hs0) ((List.getElem?_eq_some_iff.mp hz0).1) rfl rfl (g' := (mkF m 28 #[.val (.ref oo), .val (.ref p1), .val (.int (0 : Int32))] [])) rfl ?_
  intro T5 h5 X5 e5 W5 B5
  have Zn6 := Nat.le_trans Z0 (Nat.le_of_eq W5.size.symm)
  have Frs_7 := Frs.other W5 (Or.inl neo)
  have Fus_7 := Fus.other W5 (Or.inl neo)
  have Ara_7 := own_Al_oth W5 Ara ner
  have Aua_7 := own_Al_oth W5 Aua neu
  have Kp8 := (Keep.refl h0 [p1]).wr W5 (Or.inl (List.mem_of_getElem? (i := 0) rfl))
  have N5 := Fr.snoc X5 N0 gp1
  refine own_up (S' := T5.setTop (mkF m 31 #[.val (.ref oo), .val (.ref p1), .val (.int (1 : Int32))] [])) (fun t stp => XT.iincV X5.here hx rfl (1 : Int32) (hb hby d12_28) rfl rfl (l' := #[.val (.ref oo), .val (.ref p1), .val (.int (1 : Int32))]) rfl stp) ?_
  refine own_up (S' := T5.setTop (mkF m 2 #[.val (.ref oo), .val (.ref p1), .val (.int (1 : Int32))] [])) (fun t stp => XS.goto X5.here hx rfl (pc0 := 31) (pc' := 2) rfl (hb hby d12_31) (by decide) (by decide) stp) ?_
  refine own_up (S' := T5.setTop (mkF m 3 #[.val (.ref oo), .val (.ref p1), .val (.int (1 : Int32))] [(.int (1 : Int32))])) (fun t stp => XS.iloadN X5.here hx rfl (hb hby d12_2) rfl stp) ?_
  refine own_up (S' := T5.setTop (mkF m 4 #[.val (.ref oo), .val (.ref p1), .val (.int (1 : Int32))] [(.ref oo), (.int (1 : Int32))])) (fun t stp => XS.aloadN X5.here hx rfl (hb hby d12_3) rfl rfl stp) ?_
  refine own_get X5 hx hZ hown (hw _ (List.mem_of_getElem? (i := 16) rfl)) Via.refl e5 Frs_7 (g' := (mkF m 7 #[.val (.ref oo), .val (.ref p1), .val (.int (1 : Int32))] [(.ref ra), (.int (1 : Int32))])) (hb hby d12_4) rfl rfl rfl ?_
  intro T9 X9 e9
  refine own_len X9 hx hZ e9 Ara_7 (2 : Int32) (hb hby d12_7) (rfl) rfl rfl (g' := (mkF m 8 #[.val (.ref oo), .val (.ref p1), .val (.int (1 : Int32))] [(.int (2 : Int32)), (.int (1 : Int32))])) rfl ?_
  have hc8_10 : (1 : Int32) < (2 : Int32) := by decide
  refine own_up (S' := T9.setTop (mkF m 11 #[.val (.ref oo), .val (.ref p1), .val (.int (1 : Int32))] [])) (fun t stp => XS.icmpNo X9.here hx rfl (hb hby d12_8) rfl (XT.ii_ge_f hc8_10) stp) ?_
  refine own_up (S' := T9.setTop (mkF m 12 #[.val (.ref oo), .val (.ref p1), .val (.int (1 : Int32))] [(.ref p1)])) (fun t stp => XS.aloadN X9.here hx rfl (hb hby d12_11) rfl rfl stp) ?_
  refine own_up (S' := T9.setTop (mkF m 13 #[.val (.ref oo), .val (.ref p1), .val (.int (1 : Int32))] [(.ref oo), (.ref p1)])) (fun t stp => XS.aloadN X9.here hx rfl (hb hby d12_12) rfl rfl stp) ?_
  refine own_get X9 hx hZ hown (hw _ (List.mem_of_getElem? (i := 16) rfl)) Via.refl e9 Frs_7 (g' := (mkF m 16 #[.val (.ref oo), .val (.ref p1), .val (.int (1 : Int32))] [(.ref ra), (.ref p1)])) (hb hby d12_13) rfl rfl rfl ?_
  intro T11 X11 e11
  refine own_up (S' := T11.setTop (mkF m 17 #[.val (.ref oo), .val (.ref p1), .val (.int (1 : Int32))] [(.int (1 : Int32)), (.ref ra), (.ref p1)])) (fun t stp => XS.iloadN X11.here hx rfl (hb hby d12_16) rfl stp) ?_
  refine own_ldi X11 hx hZ e11 Ara_7 (v := (.int s1)) 1 (hb hby d12_17) (rfl) (rfl) rfl rfl (g' := (mkF m 18 #[.val (.ref oo), .val (.ref p1), .val (.int (1 : Int32))] [(.int s1), (.ref p1)])) rfl ?_
  refine own_up (S' := T11.setTop (mkF m 19 #[.val (.ref oo), .val (.ref p1), .val (.int (1 : Int32))] [(.int s1), (.ref p1), (.int s1), (.ref p1)])) (fun t stp => XT.dup2 X11.here hx rfl (hb hby d12_18) rfl rfl rfl stp) ?_
  refine own_ldj X11 hx hZ e11 B5 (v := (.long z1)) ix1 (hb hby d12_19) (hs1) (hz1) rfl rfl (g' := (mkF m 20 #[.val (.ref oo), .val (.ref p1), .val (.int (1 : Int32))] [(.long z1), (.int s1), (.ref p1)])) rfl ?_
  refine own_up (S' := T11.setTop (mkF m 21 #[.val (.ref oo), .val (.ref p1), .val (.int (1 : Int32))] [(.ref oo), (.long z1), (.int s1), (.ref p1)])) (fun t stp => XS.aloadN X11.here hx rfl (hb hby d12_20) rfl rfl stp) ?_
  refine own_get X11 hx hZ hown (hw _ (List.mem_of_getElem? (i := 18) rfl)) Via.refl e11 Fus_7 (g' := (mkF m 24 #[.val (.ref oo), .val (.ref p1), .val (.int (1 : Int32))] [(.ref ua), (.long z1), (.int s1), (.ref p1)])) (hb hby d12_21) rfl rfl rfl ?_
  intro T12 X12 e12
  refine own_up (S' := T12.setTop (mkF m 25 #[.val (.ref oo), .val (.ref p1), .val (.int (1 : Int32))] [(.int (1 : Int32)), (.ref ua), (.long z1), (.int s1), (.ref p1)])) (fun t stp => XS.iloadN X12.here hx rfl (hb hby d12_24) rfl stp) ?_
  refine own_ldj X12 hx hZ e12 Aua_7 (v := (.long u1)) 1 (hb hby d12_25) (rfl) (rfl) rfl rfl (g' := (mkF m 26 #[.val (.ref oo), .val (.ref p1), .val (.int (1 : Int32))] [(.long u1), (.long z1), (.int s1), (.ref p1)])) rfl ?_
  refine own_up (S' := T12.setTop (mkF m 27 #[.val (.ref oo), .val (.ref p1), .val (.int (1 : Int32))] [(.long (z1 - u1)), (.int s1), (.ref p1)])) (fun t stp => XT.lsub X12.here hx rfl (hb hby d12_26) rfl stp) ?_
  refine own_stj X12 hx hZ e12 B5 ix1 (hb hby d12_27) (hs1) ((List.getElem?_eq_some_iff.mp hz1).1) rfl rfl (g' := (mkF m 28 #[.val (.ref oo), .val (.ref p1), .val (.int (1 : Int32))] [])) rfl ?_
  intro T13 h13 X13 e13 W13 B13
  have Zn14 := Nat.le_trans Zn6 (Nat.le_of_eq W13.size.symm)
  have Frs_15 := Frs_7.other W13 (Or.inl neo)
  have Fus_15 := Fus_7.other W13 (Or.inl neo)
  have Ara_15 := own_Al_oth W13 Ara_7 ner
  have Aua_15 := own_Al_oth W13 Aua_7 neu
  have Kp16 := Kp8.wr W13 (Or.inl (List.mem_of_getElem? (i := 0) rfl))
  have N13 := Fr.snoc X13 N5 gp1
  refine own_up (S' := T13.setTop (mkF m 31 #[.val (.ref oo), .val (.ref p1), .val (.int (2 : Int32))] [])) (fun t stp => XT.iincV X13.here hx rfl (1 : Int32) (hb hby d12_28) rfl rfl (l' := #[.val (.ref oo), .val (.ref p1), .val (.int (2 : Int32))]) rfl stp) ?_
  refine own_up (S' := T13.setTop (mkF m 2 #[.val (.ref oo), .val (.ref p1), .val (.int (2 : Int32))] [])) (fun t stp => XS.goto X13.here hx rfl (pc0 := 31) (pc' := 2) rfl (hb hby d12_31) (by decide) (by decide) stp) ?_
  refine own_up (S' := T13.setTop (mkF m 3 #[.val (.ref oo), .val (.ref p1), .val (.int (2 : Int32))] [(.int (2 : Int32))])) (fun t stp => XS.iloadN X13.here hx rfl (hb hby d12_2) rfl stp) ?_
  refine own_up (S' := T13.setTop (mkF m 4 #[.val (.ref oo), .val (.ref p1), .val (.int (2 : Int32))] [(.ref oo), (.int (2 : Int32))])) (fun t stp => XS.aloadN X13.here hx rfl (hb hby d12_3) rfl rfl stp) ?_
  refine own_get X13 hx hZ hown (hw _ (List.mem_of_getElem? (i := 16) rfl)) Via.refl e13 Frs_15 (g' := (mkF m 7 #[.val (.ref oo), .val (.ref p1), .val (.int (2 : Int32))] [(.ref ra), (.int (2 : Int32))])) (hb hby d12_4) rfl rfl rfl ?_
  intro T17 X17 e17
  refine own_len X17 hx hZ e17 Ara_15 (2 : Int32) (hb hby d12_7) (rfl) rfl rfl (g' := (mkF m 8 #[.val (.ref oo), .val (.ref p1), .val (.int (2 : Int32))] [(.int (2 : Int32)), (.int (2 : Int32))])) rfl ?_
  have hc8_18 : ¬ ((2 : Int32) < (2 : Int32)) := by decide
  refine own_up (S' := T17.setTop (mkF m 34 #[.val (.ref oo), .val (.ref p1), .val (.int (2 : Int32))] [])) (fun t stp => XS.icmpYes X17.here hx rfl (pc0 := 8) (pc' := 34) rfl (hb hby d12_8) rfl (XT.ii_ge_t hc8_18) (by decide) (by decide) stp) ?_
  refine own_retV X17 hx hlk hret (hb hby d12_34) (by decide) (by decide) ?_
  show own_Q12 Z oo p1 ra ua vs s0 u0 ix0 z0 s1 u1 ix1 z1 h0 n0 _ T17.heap _
  rw [e17]
  exact ⟨rfl, N13, Kp16, B13⟩
theorem d13_0 : decode prog_26_method_4_code 0 = .ok (.iconst 0, 1) := by decide +kernel
theorem d13_1 : decode prog_26_method_4_code 1 = .ok (.istore_n 2, 1) := by decide +kernel
theorem d13_2 : decode prog_26_method_4_code 2 = .ok (.iload_n 2, 1) := by decide +kernel
theorem d13_3 : decode prog_26_method_4_code 3 = .ok (.aload_n 0, 1) := by decide +kernel
theorem d13_4 : decode prog_26_method_4_code 4 = .ok (.getfield 7, 3) := by decide +kernel
theorem d13_7 : decode prog_26_method_4_code 7 = .ok (.arraylength, 1) := by decide +kernel
theorem d13_8 : decode prog_26_method_4_code 8 = .ok (.if_icmp .ge 26, 3) := by decide +kernel
theorem d13_11 : decode prog_26_method_4_code 11 = .ok (.aload_n 1, 1) := by decide +kernel
theorem d13_12 : decode prog_26_method_4_code 12 = .ok (.aload_n 0, 1) := by decide +kernel
theorem d13_13 : decode prog_26_method_4_code 13 = .ok (.getfield 7, 3) := by decide +kernel
theorem d13_16 : decode prog_26_method_4_code 16 = .ok (.iload_n 2, 1) := by decide +kernel
theorem d13_17 : decode prog_26_method_4_code 17 = .ok (.iaload, 1) := by decide +kernel
theorem d13_18 : decode prog_26_method_4_code 18 = .ok (.dup2, 1) := by decide +kernel
theorem d13_19 : decode prog_26_method_4_code 19 = .ok (.laload, 1) := by decide +kernel
theorem d13_20 : decode prog_26_method_4_code 20 = .ok (.aload_n 0, 1) := by decide +kernel
theorem d13_21 : decode prog_26_method_4_code 21 = .ok (.getfield 13, 3) := by decide +kernel
theorem d13_24 : decode prog_26_method_4_code 24 = .ok (.iload_n 2, 1) := by decide +kernel
theorem d13_25 : decode prog_26_method_4_code 25 = .ok (.laload, 1) := by decide +kernel
theorem d13_26 : decode prog_26_method_4_code 26 = .ok (.lsub, 1) := by decide +kernel
theorem d13_27 : decode prog_26_method_4_code 27 = .ok (.lastore, 1) := by decide +kernel
theorem d13_28 : decode prog_26_method_4_code 28 = .ok (.iinc 2 1, 3) := by decide +kernel
theorem d13_31 : decode prog_26_method_4_code 31 = .ok (.goto (-29), 3) := by decide +kernel
theorem d13_34 : decode prog_26_method_4_code 34 = .ok (.return_, 1) := by decide +kernel
def own_R13 : Room := { frames := 0, cells := 0, slots := 0, locals := 0 }
theorem own_ef13 (oo : Addr) (p1 : Addr) (m : MethodId) : entryFrame m #[(.ref oo), (.ref p1)] 3 = mkF m 0 #[.val (.ref oo), .val (.ref p1), .unset] [] := by first | (simp [entryFrame, mkF, argsToLocals, Value.category]; done) | rfl
def own_Q13 (Z : State) (oo : Addr) (p1 : Addr) (ra : Addr) (ua : Addr) (vs : List Value) (s0 : Int32) (u0 : Int64) (ix0 : Nat) (z0 : Int64) (s1 : Int32) (u1 : Int64) (ix1 : Nat) (z1 : Int64) (s2 : Int32) (u2 : Int64) (ix2 : Nat) (z2 : Int64) (h0 : Heap) (n0 : Nat) (v : Option Value) (h : Heap) (L : List Loc) : Prop := v = none ∧ Fr n0 L ∧ Keep h0 h [p1] ∧ own_Al Z h p1 .long (((vs.set ix0 (.long (z0 - u0))).set ix1 (.long (z1 - u1))).set ix2 (.long (z2 - u2)))
set_option maxRecDepth 65536 in
set_option maxHeartbeats 40000000 in
theorem rm13 (l : Launch) (Z : State) (a0 : Array Value) (hw : ∀ d ∈ tables_1, d.before a0 Z = true) (ws : List Jvm.Cond) (oo : Addr) (p1 : Addr) (ra : Addr) (ua : Addr) (vs : List Value) (s0 : Int32) (u0 : Int64) (ix0 : Nat) (z0 : Int64) (s1 : Int32) (u1 : Int64) (ix1 : Nat) (z1 : Int64) (s2 : Int32) (u2 : Int64) (ix2 : Nat) (z2 : Int64) (h0 : Heap) (n0 : Nat) (Z0 : n0 ≤ h0.size) (Frs : Fld Z h0 oo "com/example/outcry/outcry/combinatorial/Bundle" "resources" "[I" (.ref ra)) (Fus : Fld Z h0 oo "com/example/outcry/outcry/combinatorial/Bundle" "units" "[J" (.ref ua)) (Ara : own_Al Z h0 ra .int [(.int s0), (.int s1), (.int s2)]) (Aua : own_Al Z h0 ua .long [(.long u0), (.long u1), (.long u2)]) (Ale : own_Al Z h0 p1 .long vs) (gp1 : n0 ≤ p1) (ner : ra ≠ p1) (neu : ua ≠ p1) (neo : oo ≠ p1) (hs0 : s0.toInt = (ix0 : Int)) (hz0 : vs[ix0]? = some (.long z0)) (hs1 : s1.toInt = (ix1 : Int)) (hz1 : (vs.set ix0 (.long (z0 - u0)))[ix1]? = some (.long z1)) (hs2 : s2.toInt = (ix2 : Int)) (hz2 : ((vs.set ix0 (.long (z0 - u0))).set ix1 (.long (z1 - u1)))[ix2]? = some (.long z2)) :
    MetFree l (⟨"com/example/outcry/outcry/combinatorial/Bundle", "take", "([J)V"⟩ : MethodName) (head1 (Jvm.Cond.code (⟨"com/example/outcry/outcry/combinatorial/Bundle", "take", "([J)V"⟩ : MethodName) prog_26_method_4_code 3 none :: ws) own_R13) (fun a U => a = #[(.ref oo), (.ref p1)] ∧ Z.Warmed39 U.vm ∧ U.heap = h0) (fun _ _ _ _ _ => True) (fun _ U o U' => ∃ v L, o = .returned v ∧ own_Q13 Z oo p1 ra ua vs s0 u0 ix0 z0 s1 u1 ix1 z1 s2 u2 ix2 z2 h0 n0 v U'.heap L ∧ FrameEnd U o U' L own_R13.cells own_R13.slots) := by
  refine own_met (Q := own_Q13 Z oo p1 ra ua vs s0 u0 ix0 z0 s1 u1 ix1 z1 s2 u2 ix2 z2 h0 n0) (plainFor_of_name (by first | (simp [plainName, overriddenIn]; done) | decide +kernel)) (own_ef13 oo p1) ?_
  intro p e s m below meth c T0 hx hby hml hown hnm hret hlk hZ e0 X0
  have N0 := Fr.nil n0
  refine own_up (S' := T0.setTop (mkF m 1 #[.val (.ref oo), .val (.ref p1), .unset] [(.int (0 : Int32))])) (fun t stp => XT.iconstV X0.here hx rfl (0 : Int32) (hb hby d13_0) rfl stp) ?_
  refine own_up (S' := T0.setTop (mkF m 2 #[.val (.ref oo), .val (.ref p1), .val (.int (0 : Int32))] [])) (fun t stp => XS.istoreN X0.here hx rfl (hb hby d13_1) rfl (l' := #[.val (.ref oo), .val (.ref p1), .val (.int (0 : Int32))]) rfl stp) ?_
  refine own_up (S' := T0.setTop (mkF m 3 #[.val (.ref oo), .val (.ref p1), .val (.int (0 : Int32))] [(.int (0 : Int32))])) (fun t stp => XS.iloadN X0.here hx rfl (hb hby d13_2) rfl stp) ?_
  refine own_up (S' := T0.setTop (mkF m 4 #[.val (.ref oo), .val (.ref p1), .val (.int (0 : Int32))] [(.ref oo), (.int (0 : Int32))])) (fun t stp => XS.aloadN X0.here hx rfl (hb hby d13_3) rfl rfl stp) ?_
  refine own_get X0 hx hZ hown (hw _ (List.mem_of_getElem? (i := 16) rfl)) Via.refl e0 Frs (g' := (mkF m 7 #[.val (.ref oo), .val (.ref p1), .val (.int (0 : Int32))] [(.ref ra), (.int (0 : Int32))])) (hb hby d13_4) rfl rfl rfl ?_
  intro T1 X1 e1
  refine own_len X1 hx hZ e1 Ara (3 : Int32) (hb hby d13_7) (rfl) rfl rfl (g' := (mkF m 8 #[.val (.ref oo), .val (.ref p1), .val (.int (0 : Int32))] [(.int (3 : Int32)), (.int (0 : Int32))])) rfl ?_
  have hc8_2 : (0 : Int32) < (3 : Int32) := by decide
  refine own_up (S' := T1.setTop (mkF m 11 #[.val (.ref oo), .val (.ref p1), .val (.int (0 : Int32))] [])) (fun t stp => XS.icmpNo X1.here hx rfl (hb hby d13_8) rfl (XT.ii_ge_f hc8_2) stp) ?_
  refine own_up (S' := T1.setTop (mkF m 12 #[.val (.ref oo), .val (.ref p1), .val (.int (0 : Int32))] [(.ref p1)])) (fun t stp => XS.aloadN X1.here hx rfl (hb hby d13_11) rfl rfl stp) ?_
  refine own_up (S' := T1.setTop (mkF m 13 #[.val (.ref oo), .val (.ref p1), .val (.int (0 : Int32))] [(.ref oo), (.ref p1)])) (fun t stp => XS.aloadN X1.here hx rfl (hb hby d13_12) rfl rfl stp) ?_
  refine own_get X1 hx hZ hown (hw _ (List.mem_of_getElem? (i := 16) rfl)) Via.refl e1 Frs (g' := (mkF m 16 #[.val (.ref oo), .val (.ref p1), .val (.int (0 : Int32))] [(.ref ra), (.ref p1)])) (hb hby d13_13) rfl rfl rfl ?_
  intro T3 X3 e3
  refine own_up (S' := T3.setTop (mkF m 17 #[.val (.ref oo), .val (.ref p1), .val (.int (0 : Int32))] [(.int (0 : Int32)), (.ref ra), (.ref p1)])) (fun t stp => XS.iloadN X3.here hx rfl (hb hby d13_16) rfl stp) ?_
  refine own_ldi X3 hx hZ e3 Ara (v := (.int s0)) 0 (hb hby d13_17) (rfl) (rfl) rfl rfl (g' := (mkF m 18 #[.val (.ref oo), .val (.ref p1), .val (.int (0 : Int32))] [(.int s0), (.ref p1)])) rfl ?_
  refine own_up (S' := T3.setTop (mkF m 19 #[.val (.ref oo), .val (.ref p1), .val (.int (0 : Int32))] [(.int s0), (.ref p1), (.int s0), (.ref p1)])) (fun t stp => XT.dup2 X3.here hx rfl (hb hby d13_18) rfl rfl rfl stp) ?_
  refine own_ldj X3 hx hZ e3 Ale (v := (.long z0)) ix0 (hb hby d13_19) (hs0) (hz0) rfl rfl (g' := (mkF m 20 #[.val (.ref oo), .val (.ref p1), .val (.int (0 : Int32))] [(.long z0), (.int s0), (.ref p1)])) rfl ?_
  refine own_up (S' := T3.setTop (mkF m 21 #[.val (.ref oo), .val (.ref p1), .val (.int (0 : Int32))] [(.ref oo), (.long z0), (.int s0), (.ref p1)])) (fun t stp => XS.aloadN X3.here hx rfl (hb hby d13_20) rfl rfl stp) ?_
  refine own_get X3 hx hZ hown (hw _ (List.mem_of_getElem? (i := 18) rfl)) Via.refl e3 Fus (g' := (mkF m 24 #[.val (.ref oo), .val (.ref p1), .val (.int (0 : Int32))] [(.ref ua), (.long z0), (.int s0), (.ref p1)])) (hb hby d13_21) rfl rfl rfl ?_
  intro T4 X4 e4
  refine own_up (S' := T4.setTop (mkF m 25 #[.val (.ref oo), .val (.ref p1), .val (.int (0 : Int32))] [(.int (0 : Int32)), (.ref ua), (.long z0), (.int s0), (.ref p1)])) (fun t stp => XS.iloadN X4.here hx rfl (hb hby d13_24) rfl stp) ?_
  refine own_ldj X4 hx hZ e4 Aua (v := (.long u0)) 0 (hb hby d13_25) (rfl) (rfl) rfl rfl (g' := (mkF m 26 #[.val (.ref oo), .val (.ref p1), .val (.int (0 : Int32))] [(.long u0), (.long z0), (.int s0), (.ref p1)])) rfl ?_
  refine own_up (S' := T4.setTop (mkF m 27 #[.val (.ref oo), .val (.ref p1), .val (.int (0 : Int32))] [(.long (z0 - u0)), (.int s0), (.ref p1)])) (fun t stp => XT.lsub X4.here hx rfl (hb hby d13_26) rfl stp) ?_
  refine own_stj X4 hx hZ e4 Ale ix0 (hb hby d13_27) (hs0) ((List.getElem?_eq_some_iff.mp hz0).1) rfl rfl (g' := (mkF m 28 #[.val (.ref oo), .val (.ref p1), .val (.int (0 : Int32))] [])) rfl ?_
  intro T5 h5 X5 e5 W5 B5
  have Zn6 := Nat.le_trans Z0 (Nat.le_of_eq W5.size.symm)
  have Frs_7 := Frs.other W5 (Or.inl neo)
  have Fus_7 := Fus.other W5 (Or.inl neo)
  have Ara_7 := own_Al_oth W5 Ara ner
  have Aua_7 := own_Al_oth W5 Aua neu
  have Kp8 := (Keep.refl h0 [p1]).wr W5 (Or.inl (List.mem_of_getElem? (i := 0) rfl))
  have N5 := Fr.snoc X5 N0 gp1
  refine own_up (S' := T5.setTop (mkF m 31 #[.val (.ref oo), .val (.ref p1), .val (.int (1 : Int32))] [])) (fun t stp => XT.iincV X5.here hx rfl (1 : Int32) (hb hby d13_28) rfl rfl (l' := #[.val (.ref oo), .val (.ref p1), .val (.int (1 : Int32))]) rfl stp) ?_
  refine own_up (S' := T5.setTop (mkF m 2 #[.val (.ref oo), .val (.ref p1), .val (.int (1 : Int32))] [])) (fun t stp => XS.goto X5.here hx rfl (pc0 := 31) (pc' := 2) rfl (hb hby d13_31) (by decide) (by decide) stp) ?_
  refine own_up (S' := T5.setTop (mkF m 3 #[.val (.ref oo), .val (.ref p1), .val (.int (1 : Int32))] [(.int (1 : Int32))])) (fun t stp => XS.iloadN X5.here hx rfl (hb hby d13_2) rfl stp) ?_
  refine own_up (S' := T5.setTop (mkF m 4 #[.val (.ref oo), .val (.ref p1), .val (.int (1 : Int32))] [(.ref oo), (.int (1 : Int32))])) (fun t stp => XS.aloadN X5.here hx rfl (hb hby d13_3) rfl rfl stp) ?_
  refine own_get X5 hx hZ hown (hw _ (List.mem_of_getElem? (i := 16) rfl)) Via.refl e5 Frs_7 (g' := (mkF m 7 #[.val (.ref oo), .val (.ref p1), .val (.int (1 : Int32))] [(.ref ra), (.int (1 : Int32))])) (hb hby d13_4) rfl rfl rfl ?_
  intro T9 X9 e9
  refine own_len X9 hx hZ e9 Ara_7 (3 : Int32) (hb hby d13_7) (rfl) rfl rfl (g' := (mkF m 8 #[.val (.ref oo), .val (.ref p1), .val (.int (1 : Int32))] [(.int (3 : Int32)), (.int (1 : Int32))])) rfl ?_
  have hc8_10 : (1 : Int32) < (3 : Int32) := by decide
  refine own_up (S' := T9.setTop (mkF m 11 #[.val (.ref oo), .val (.ref p1), .val (.int (1 : Int32))] [])) (fun t stp => XS.icmpNo X9.here hx rfl (hb hby d13_8) rfl (XT.ii_ge_f hc8_10) stp) ?_
  refine own_up (S' := T9.setTop (mkF m 12 #[.val (.ref oo), .val (.ref p1), .val (.int (1 : Int32))] [(.ref p1)])) (fun t stp => XS.aloadN X9.here hx rfl (hb hby d13_11) rfl rfl stp) ?_
  refine own_up (S' := T9.setTop (mkF m 13 #[.val (.ref oo), .val (.ref p1), .val (.int (1 : Int32))] [(.ref oo), (.ref p1)])) (fun t stp => XS.aloadN X9.here hx rfl (hb hby d13_12) rfl rfl stp) ?_
  refine own_get X9 hx hZ hown (hw _ (List.mem_of_getElem? (i := 16) rfl)) Via.refl e9 Frs_7 (g' := (mkF m 16 #[.val (.ref oo), .val (.ref p1), .val (.int (1 : Int32))] [(.ref ra), (.ref p1)])) (hb hby d13_13) rfl rfl rfl ?_
  intro T11 X11 e11
  refine own_up (S' := T11.setTop (mkF m 17 #[.val (.ref oo), .val (.ref p1), .val (.int (1 : Int32))] [(.int (1 : Int32)), (.ref ra), (.ref p1)])) (fun t stp => XS.iloadN X11.here hx rfl (hb hby d13_16) rfl stp) ?_
  refine own_ldi X11 hx hZ e11 Ara_7 (v := (.int s1)) 1 (hb hby d13_17) (rfl) (rfl) rfl rfl (g' := (mkF m 18 #[.val (.ref oo), .val (.ref p1), .val (.int (1 : Int32))] [(.int s1), (.ref p1)])) rfl ?_
  refine own_up (S' := T11.setTop (mkF m 19 #[.val (.ref oo), .val (.ref p1), .val (.int (1 : Int32))] [(.int s1), (.ref p1), (.int s1), (.ref p1)])) (fun t stp => XT.dup2 X11.here hx rfl (hb hby d13_18) rfl rfl rfl stp) ?_
  refine own_ldj X11 hx hZ e11 B5 (v := (.long z1)) ix1 (hb hby d13_19) (hs1) (hz1) rfl rfl (g' := (mkF m 20 #[.val (.ref oo), .val (.ref p1), .val (.int (1 : Int32))] [(.long z1), (.int s1), (.ref p1)])) rfl ?_
  refine own_up (S' := T11.setTop (mkF m 21 #[.val (.ref oo), .val (.ref p1), .val (.int (1 : Int32))] [(.ref oo), (.long z1), (.int s1), (.ref p1)])) (fun t stp => XS.aloadN X11.here hx rfl (hb hby d13_20) rfl rfl stp) ?_
  refine own_get X11 hx hZ hown (hw _ (List.mem_of_getElem? (i := 18) rfl)) Via.refl e11 Fus_7 (g' := (mkF m 24 #[.val (.ref oo), .val (.ref p1), .val (.int (1 : Int32))] [(.ref ua), (.long z1), (.int s1), (.ref p1)])) (hb hby d13_21) rfl rfl rfl ?_
  intro T12 X12 e12
  refine own_up (S' := T12.setTop (mkF m 25 #[.val (.ref oo), .val (.ref p1), .val (.int (1 : Int32))] [(.int (1 : Int32)), (.ref ua), (.long z1), (.int s1), (.ref p1)])) (fun t stp => XS.iloadN X12.here hx rfl (hb hby d13_24) rfl stp) ?_
  refine own_ldj X12 hx hZ e12 Aua_7 (v := (.long u1)) 1 (hb hby d13_25) (rfl) (rfl) rfl rfl (g' := (mkF m 26 #[.val (.ref oo), .val (.ref p1), .val (.int (1 : Int32))] [(.long u1), (.long z1), (.int s1), (.ref p1)])) rfl ?_
  refine own_up (S' := T12.setTop (mkF m 27 #[.val (.ref oo), .val (.ref p1), .val (.int (1 : Int32))] [(.long (z1 - u1)), (.int s1), (.ref p1)])) (fun t stp => XT.lsub X12.here hx rfl (hb hby d13_26) rfl stp) ?_
  refine own_stj X12 hx hZ e12 B5 ix1 (hb hby d13_27) (hs1) ((List.getElem?_eq_some_iff.mp hz1).1) rfl rfl (g' := (mkF m 28 #[.val (.ref oo), .val (.ref p1), .val (.int (1 : Int32))] [])) rfl ?_
  intro T13 h13 X13 e13 W13 B13
  have Zn14 := Nat.le_trans Zn6 (Nat.le_of_eq W13.size.symm)
  have Frs_15 := Frs_7.other W13 (Or.inl neo)
  have Fus_15 := Fus_7.other W13 (Or.inl neo)
  have Ara_15 := own_Al_oth W13 Ara_7 ner
  have Aua_15 := own_Al_oth W13 Aua_7 neu
  have Kp16 := Kp8.wr W13 (Or.inl (List.mem_of_getElem? (i := 0) rfl))
  have N13 := Fr.snoc X13 N5 gp1
  refine own_up (S' := T13.setTop (mkF m 31 #[.val (.ref oo), .val (.ref p1), .val (.int (2 : Int32))] [])) (fun t stp => XT.iincV X13.here hx rfl (1 : Int32) (hb hby d13_28) rfl rfl (l' := #[.val (.ref oo), .val (.ref p1), .val (.int (2 : Int32))]) rfl stp) ?_
  refine own_up (S' := T13.setTop (mkF m 2 #[.val (.ref oo), .val (.ref p1), .val (.int (2 : Int32))] [])) (fun t stp => XS.goto X13.here hx rfl (pc0 := 31) (pc' := 2) rfl (hb hby d13_31) (by decide) (by decide) stp) ?_
  refine own_up (S' := T13.setTop (mkF m 3 #[.val (.ref oo), .val (.ref p1), .val (.int (2 : Int32))] [(.int (2 : Int32))])) (fun t stp => XS.iloadN X13.here hx rfl (hb hby d13_2) rfl stp) ?_
  refine own_up (S' := T13.setTop (mkF m 4 #[.val (.ref oo), .val (.ref p1), .val (.int (2 : Int32))] [(.ref oo), (.int (2 : Int32))])) (fun t stp => XS.aloadN X13.here hx rfl (hb hby d13_3) rfl rfl stp) ?_
  refine own_get X13 hx hZ hown (hw _ (List.mem_of_getElem? (i := 16) rfl)) Via.refl e13 Frs_15 (g' := (mkF m 7 #[.val (.ref oo), .val (.ref p1), .val (.int (2 : Int32))] [(.ref ra), (.int (2 : Int32))])) (hb hby d13_4) rfl rfl rfl ?_
  intro T17 X17 e17
  refine own_len X17 hx hZ e17 Ara_15 (3 : Int32) (hb hby d13_7) (rfl) rfl rfl (g' := (mkF m 8 #[.val (.ref oo), .val (.ref p1), .val (.int (2 : Int32))] [(.int (3 : Int32)), (.int (2 : Int32))])) rfl ?_
  have hc8_18 : (2 : Int32) < (3 : Int32) := by decide
  refine own_up (S' := T17.setTop (mkF m 11 #[.val (.ref oo), .val (.ref p1), .val (.int (2 : Int32))] [])) (fun t stp => XS.icmpNo X17.here hx rfl (hb hby d13_8) rfl (XT.ii_ge_f hc8_18) stp) ?_
  refine own_up (S' := T17.setTop (mkF m 12 #[.val (.ref oo), .val (.ref p1), .val (.int (2 : Int32))] [(.ref p1)])) (fun t stp => XS.aloadN X17.here hx rfl (hb hby d13_11) rfl rfl stp) ?_
  refine own_up (S' := T17.setTop (mkF m 13 #[.val (.ref oo), .val (.ref p1), .val (.int (2 : Int32))] [(.ref oo), (.ref p1)])) (fun t stp => XS.aloadN X17.here hx rfl (hb hby d13_12) rfl rfl stp) ?_
  refine own_get X17 hx hZ hown (hw _ (List.mem_of_getElem? (i := 16) rfl)) Via.refl e17 Frs_15 (g' := (mkF m 16 #[.val (.ref oo), .val (.ref p1), .val (.int (2 : Int32))] [(.ref ra), (.ref p1)])) (hb hby d13_13) rfl rfl rfl ?_
  intro T19 X19 e19
  refine own_up (S' := T19.setTop (mkF m 17 #[.val (.ref oo), .val (.ref p1), .val (.int (2 : Int32))] [(.int (2 : Int32)), (.ref ra), (.ref p1)])) (fun t stp => XS.iloadN X19.here hx rfl (hb hby d13_16) rfl stp) ?_
  refine own_ldi X19 hx hZ e19 Ara_15 (v := (.int s2)) 2 (hb hby d13_17) (rfl) (rfl) rfl rfl (g' := (mkF m 18 #[.val (.ref oo), .val (.ref p1), .val (.int (2 : Int32))] [(.int s2), (.ref p1)])) rfl ?_
  refine own_up (S' := T19.setTop (mkF m 19 #[.val (.ref oo), .val (.ref p1), .val (.int (2 : Int32))] [(.int s2), (.ref p1), (.int s2), (.ref p1)])) (fun t stp => XT.dup2 X19.here hx rfl (hb hby d13_18) rfl rfl rfl stp) ?_
  refine own_ldj X19 hx hZ e19 B13 (v := (.long z2)) ix2 (hb hby d13_19) (hs2) (hz2) rfl rfl (g' := (mkF m 20 #[.val (.ref oo), .val (.ref p1), .val (.int (2 : Int32))] [(.long z2), (.int s2), (.ref p1)])) rfl ?_
  refine own_up (S' := T19.setTop (mkF m 21 #[.val (.ref oo), .val (.ref p1), .val (.int (2 : Int32))] [(.ref oo), (.long z2), (.int s2), (.ref p1)])) (fun t stp => XS.aloadN X19.here hx rfl (hb hby d13_20) rfl rfl stp) ?_
  refine own_get X19 hx hZ hown (hw _ (List.mem_of_getElem? (i := 18) rfl)) Via.refl e19 Fus_15 (g' := (mkF m 24 #[.val (.ref oo), .val (.ref p1), .val (.int (2 : Int32))] [(.ref ua), (.long z2), (.int s2), (.ref p1)])) (hb hby d13_21) rfl rfl rfl ?_
  intro T20 X20 e20
  refine own_up (S' := T20.setTop (mkF m 25 #[.val (.ref oo), .val (.ref p1), .val (.int (2 : Int32))] [(.int (2 : Int32)), (.ref ua), (.long z2), (.int s2), (.ref p1)])) (fun t stp => XS.iloadN X20.here hx rfl (hb hby d13_24) rfl stp) ?_
  refine own_ldj X20 hx hZ e20 Aua_15 (v := (.long u2)) 2 (hb hby d13_25) (rfl) (rfl) rfl rfl (g' := (mkF m 26 #[.val (.ref oo), .val (.ref p1), .val (.int (2 : Int32))] [(.long u2), (.long z2), (.int s2), (.ref p1)])) rfl ?_
  refine own_up (S' := T20.setTop (mkF m 27 #[.val (.ref oo), .val (.ref p1), .val (.int (2 : Int32))] [(.long (z2 - u2)), (.int s2), (.ref p1)])) (fun t stp => XT.lsub X20.here hx rfl (hb hby d13_26) rfl stp) ?_
  refine own_stj X20 hx hZ e20 B13 ix2 (hb hby d13_27) (hs2) ((List.getElem?_eq_some_iff.mp hz2).1) rfl rfl (g' := (mkF m 28 #[.val (.ref oo), .val (.ref p1), .val (.int (2 : Int32))] [])) rfl ?_
  intro T21 h21 X21 e21 W21 B21
  have Zn22 := Nat.le_trans Zn14 (Nat.le_of_eq W21.size.symm)
  have Frs_23 := Frs_15.other W21 (Or.inl neo)
  have Fus_23 := Fus_15.other W21 (Or.inl neo)
  have Ara_23 := own_Al_oth W21 Ara_15 ner
  have Aua_23 := own_Al_oth W21 Aua_15 neu
  have Kp24 := Kp16.wr W21 (Or.inl (List.mem_of_getElem? (i := 0) rfl))
  have N21 := Fr.snoc X21 N13 gp1
  refine own_up (S' := T21.setTop (mkF m 31 #[.val (.ref oo), .val (.ref p1), .val (.int (3 : Int32))] [])) (fun t stp => XT.iincV X21.here hx rfl (1 : Int32) (hb hby d13_28) rfl rfl (l' := #[.val (.ref oo), .val (.ref p1), .val (.int (3 : Int32))]) rfl stp) ?_
  refine own_up (S' := T21.setTop (mkF m 2 #[.val (.ref oo), .val (.ref p1), .val (.int (3 : Int32))] [])) (fun t stp => XS.goto X21.here hx rfl (pc0 := 31) (pc' := 2) rfl (hb hby d13_31) (by decide) (by decide) stp) ?_
  refine own_up (S' := T21.setTop (mkF m 3 #[.val (.ref oo), .val (.ref p1), .val (.int (3 : Int32))] [(.int (3 : Int32))])) (fun t stp => XS.iloadN X21.here hx rfl (hb hby d13_2) rfl stp) ?_
  refine own_up (S' := T21.setTop (mkF m 4 #[.val (.ref oo), .val (.ref p1), .val (.int (3 : Int32))] [(.ref oo), (.int (3 : Int32))])) (fun t stp => XS.aloadN X21.here hx rfl (hb hby d13_3) rfl rfl stp) ?_
  refine own_get X21 hx hZ hown (hw _ (List.mem_of_getElem? (i := 16) rfl)) Via.refl e21 Frs_23 (g' := (mkF m 7 #[.val (.ref oo), .val (.ref p1), .val (.int (3 : Int32))] [(.ref ra), (.int (3 : Int32))])) (hb hby d13_4) rfl rfl rfl ?_
  intro T25 X25 e25
  refine own_len X25 hx hZ e25 Ara_23 (3 : Int32) (hb hby d13_7) (rfl) rfl rfl (g' := (mkF m 8 #[.val (.ref oo), .val (.ref p1), .val (.int (3 : Int32))] [(.int (3 : Int32)), (.int (3 : Int32))])) rfl ?_
  have hc8_26 : ¬ ((3 : Int32) < (3 : Int32)) := by decide
  refine own_up (S' := T25.setTop (mkF m 34 #[.val (.ref oo), .val (.ref p1), .val (.int (3 : Int32))] [])) (fun t stp => XS.icmpYes X25.here hx rfl (pc0 := 8) (pc' := 34) rfl (hb hby d13_8) rfl (XT.ii_ge_t hc8_26) (by decide) (by decide) stp) ?_
  refine own_retV X25 hx hlk hret (hb hby d13_34) (by decide) (by decide) ?_
  show own_Q13 Z oo p1 ra ua vs s0 u0 ix0 z0 s1 u1 ix1 z1 s2 u2 ix2 z2 h0 n0 _ T25.heap _
  rw [e25]
  exact ⟨rfl, N21, Kp24, B21⟩
theorem d14_0 : decode prog_26_method_4_code 0 = .ok (.iconst 0, 1) := by decide +kernel
theorem d14_1 : decode prog_26_method_4_code 1 = .ok (.istore_n 2, 1) := by decide +kernel
theorem d14_2 : decode prog_26_method_4_code 2 = .ok (.iload_n 2, 1) := by decide +kernel
theorem d14_3 : decode prog_26_method_4_code 3 = .ok (.aload_n 0, 1) := by decide +kernel
theorem d14_4 : decode prog_26_method_4_code 4 = .ok (.getfield 7, 3) := by decide +kernel
theorem d14_7 : decode prog_26_method_4_code 7 = .ok (.arraylength, 1) := by decide +kernel
theorem d14_8 : decode prog_26_method_4_code 8 = .ok (.if_icmp .ge 26, 3) := by decide +kernel
theorem d14_11 : decode prog_26_method_4_code 11 = .ok (.aload_n 1, 1) := by decide +kernel
theorem d14_12 : decode prog_26_method_4_code 12 = .ok (.aload_n 0, 1) := by decide +kernel
theorem d14_13 : decode prog_26_method_4_code 13 = .ok (.getfield 7, 3) := by decide +kernel
theorem d14_16 : decode prog_26_method_4_code 16 = .ok (.iload_n 2, 1) := by decide +kernel
theorem d14_17 : decode prog_26_method_4_code 17 = .ok (.iaload, 1) := by decide +kernel
theorem d14_18 : decode prog_26_method_4_code 18 = .ok (.dup2, 1) := by decide +kernel
theorem d14_19 : decode prog_26_method_4_code 19 = .ok (.laload, 1) := by decide +kernel
theorem d14_20 : decode prog_26_method_4_code 20 = .ok (.aload_n 0, 1) := by decide +kernel
theorem d14_21 : decode prog_26_method_4_code 21 = .ok (.getfield 13, 3) := by decide +kernel
theorem d14_24 : decode prog_26_method_4_code 24 = .ok (.iload_n 2, 1) := by decide +kernel
theorem d14_25 : decode prog_26_method_4_code 25 = .ok (.laload, 1) := by decide +kernel
theorem d14_26 : decode prog_26_method_4_code 26 = .ok (.lsub, 1) := by decide +kernel
theorem d14_27 : decode prog_26_method_4_code 27 = .ok (.lastore, 1) := by decide +kernel
theorem d14_28 : decode prog_26_method_4_code 28 = .ok (.iinc 2 1, 3) := by decide +kernel
theorem d14_31 : decode prog_26_method_4_code 31 = .ok (.goto (-29), 3) := by decide +kernel
theorem d14_34 : decode prog_26_method_4_code 34 = .ok (.return_, 1) := by decide +kernel
def own_R14 : Room := { frames := 0, cells := 0, slots := 0, locals := 0 }
theorem own_ef14 (oo : Addr) (p1 : Addr) (m : MethodId) : entryFrame m #[(.ref oo), (.ref p1)] 3 = mkF m 0 #[.val (.ref oo), .val (.ref p1), .unset] [] := by first | (simp [entryFrame, mkF, argsToLocals, Value.category]; done) | rfl
def own_Q14 (Z : State) (oo : Addr) (p1 : Addr) (ra : Addr) (ua : Addr) (vs : List Value) (s0 : Int32) (u0 : Int64) (ix0 : Nat) (z0 : Int64) (s1 : Int32) (u1 : Int64) (ix1 : Nat) (z1 : Int64) (s2 : Int32) (u2 : Int64) (ix2 : Nat) (z2 : Int64) (s3 : Int32) (u3 : Int64) (ix3 : Nat) (z3 : Int64) (h0 : Heap) (n0 : Nat) (v : Option Value) (h : Heap) (L : List Loc) : Prop := v = none ∧ Fr n0 L ∧ Keep h0 h [p1] ∧ own_Al Z h p1 .long ((((vs.set ix0 (.long (z0 - u0))).set ix1 (.long (z1 - u1))).set ix2 (.long (z2 - u2))).set ix3 (.long (z3 - u3)))
set_option maxRecDepth 65536 in
set_option maxHeartbeats 40000000 in
theorem rm14 (l : Launch) (Z : State) (a0 : Array Value) (hw : ∀ d ∈ tables_1, d.before a0 Z = true) (ws : List Jvm.Cond) (oo : Addr) (p1 : Addr) (ra : Addr) (ua : Addr) (vs : List Value) (s0 : Int32) (u0 : Int64) (ix0 : Nat) (z0 : Int64) (s1 : Int32) (u1 : Int64) (ix1 : Nat) (z1 : Int64) (s2 : Int32) (u2 : Int64) (ix2 : Nat) (z2 : Int64) (s3 : Int32) (u3 : Int64) (ix3 : Nat) (z3 : Int64) (h0 : Heap) (n0 : Nat) (Z0 : n0 ≤ h0.size) (Frs : Fld Z h0 oo "com/example/outcry/outcry/combinatorial/Bundle" "resources" "[I" (.ref ra)) (Fus : Fld Z h0 oo "com/example/outcry/outcry/combinatorial/Bundle" "units" "[J" (.ref ua)) (Ara : own_Al Z h0 ra .int [(.int s0), (.int s1), (.int s2), (.int s3)]) (Aua : own_Al Z h0 ua .long [(.long u0), (.long u1), (.long u2), (.long u3)]) (Ale : own_Al Z h0 p1 .long vs) (gp1 : n0 ≤ p1) (ner : ra ≠ p1) (neu : ua ≠ p1) (neo : oo ≠ p1) (hs0 : s0.toInt = (ix0 : Int)) (hz0 : vs[ix0]? = some (.long z0)) (hs1 : s1.toInt = (ix1 : Int)) (hz1 : (vs.set ix0 (.long (z0 - u0)))[ix1]? = some (.long z1)) (hs2 : s2.toInt = (ix2 : Int)) (hz2 : ((vs.set ix0 (.long (z0 - u0))).set ix1 (.long (z1 - u1)))[ix2]? = some (.long z2)) (hs3 : s3.toInt = (ix3 : Int)) (hz3 : (((vs.set ix0 (.long (z0 - u0))).set ix1 (.long (z1 - u1))).set ix2 (.long (z2 - u2)))[ix3]? = some (.long z3)) :
    MetFree l (⟨"com/example/outcry/outcry/combinatorial/Bundle", "take", "([J)V"⟩ : MethodName) (head1 (Jvm.Cond.code (⟨"com/example/outcry/outcry/combinatorial/Bundle", "take", "([J)V"⟩ : MethodName) prog_26_method_4_code 3 none :: ws) own_R14) (fun a U => a = #[(.ref oo), (.ref p1)] ∧ Z.Warmed39 U.vm ∧ U.heap = h0) (fun _ _ _ _ _ => True) (fun _ U o U' => ∃ v L, o = .returned v ∧ own_Q14 Z oo p1 ra ua vs s0 u0 ix0 z0 s1 u1 ix1 z1 s2 u2 ix2 z2 s3 u3 ix3 z3 h0 n0 v U'.heap L ∧ FrameEnd U o U' L own_R14.cells own_R14.slots) := by
  refine own_met (Q := own_Q14 Z oo p1 ra ua vs s0 u0 ix0 z0 s1 u1 ix1 z1 s2 u2 ix2 z2 s3 u3 ix3 z3 h0 n0) (plainFor_of_name (by first | (simp [plainName, overriddenIn]; done) | decide +kernel)) (own_ef14 oo p1) ?_
  intro p e s m below meth c T0 hx hby hml hown hnm hret hlk hZ e0 X0
  have N0 := Fr.nil n0
  refine own_up (S' := T0.setTop (mkF m 1 #[.val (.ref oo), .val (.ref p1), .unset] [(.int (0 : Int32))])) (fun t stp => XT.iconstV X0.here hx rfl (0 : Int32) (hb hby d14_0) rfl stp) ?_
  refine own_up (S' := T0.setTop (mkF m 2 #[.val (.ref oo), .val (.ref p1), .val (.int (0 : Int32))] [])) (fun t stp => XS.istoreN X0.here hx rfl (hb hby d14_1) rfl (l' := #[.val (.ref oo), .val (.ref p1), .val (.int (0 : Int32))]) rfl stp) ?_
  refine own_up (S' := T0.setTop (mkF m 3 #[.val (.ref oo), .val (.ref p1), .val (.int (0 : Int32))] [(.int (0 : Int32))])) (fun t stp => XS.iloadN X0.here hx rfl (hb hby d14_2) rfl stp) ?_
  refine own_up (S' := T0.setTop (mkF m 4 #[.val (.ref oo), .val (.ref p1), .val (.int (0 : Int32))] [(.ref oo), (.int (0 : Int32))])) (fun t stp => XS.aloadN X0.here hx rfl (hb hby d14_3) rfl rfl stp) ?_
  refine own_get X0 hx hZ hown (hw _ (List.mem_of_getElem? (i := 16) rfl)) Via.refl e0 Frs (g' := (mkF m 7 #[.val (.ref oo), .val (.ref p1), .val (.int (0 : Int32))] [(.ref ra), (.int (0 : Int32))])) (hb hby d14_4) rfl rfl rfl ?_
  intro T1 X1 e1
  refine own_len X1 hx hZ e1 Ara (4 : Int32) (hb hby d14_7) (rfl) rfl rfl (g' := (mkF m 8 #[.val (.ref oo), .val (.ref p1), .val (.int (0 : Int32))] [(.int (4 : Int32)), (.int (0 : Int32))])) rfl ?_
  have hc8_2 : (0 : Int32) < (4 : Int32) := by decide
  refine own_up (S' := T1.setTop (mkF m 11 #[.val (.ref oo), .val (.ref p1), .val (.int (0 : Int32))] [])) (fun t stp => XS.icmpNo X1.here hx rfl (hb hby d14_8) rfl (XT.ii_ge_f hc8_2) stp) ?_
  refine own_up (S' := T1.setTop (mkF m 12 #[.val (.ref oo), .val (.ref p1), .val (.int (0 : Int32))] [(.ref p1)])) (fun t stp => XS.aloadN X1.here hx rfl (hb hby d14_11) rfl rfl stp) ?_
  refine own_up (S' := T1.setTop (mkF m 13 #[.val (.ref oo), .val (.ref p1), .val (.int (0 : Int32))] [(.ref oo), (.ref p1)])) (fun t stp => XS.aloadN X1.here hx rfl (hb hby d14_12) rfl rfl stp) ?_
  refine own_get X1 hx hZ hown (hw _ (List.mem_of_getElem? (i := 16) rfl)) Via.refl e1 Frs (g' := (mkF m 16 #[.val (.ref oo), .val (.ref p1), .val (.int (0 : Int32))] [(.ref ra), (.ref p1)])) (hb hby d14_13) rfl rfl rfl ?_
  intro T3 X3 e3
  refine own_up (S' := T3.setTop (mkF m 17 #[.val (.ref oo), .val (.ref p1), .val (.int (0 : Int32))] [(.int (0 : Int32)), (.ref ra), (.ref p1)])) (fun t stp => XS.iloadN X3.here hx rfl (hb hby d14_16) rfl stp) ?_
  refine own_ldi X3 hx hZ e3 Ara (v := (.int s0)) 0 (hb hby d14_17) (rfl) (rfl) rfl rfl (g' := (mkF m 18 #[.val (.ref oo), .val (.ref p1), .val (.int (0 : Int32))] [(.int s0), (.ref p1)])) rfl ?_
  refine own_up (S' := T3.setTop (mkF m 19 #[.val (.ref oo), .val (.ref p1), .val (.int (0 : Int32))] [(.int s0), (.ref p1), (.int s0), (.ref p1)])) (fun t stp => XT.dup2 X3.here hx rfl (hb hby d14_18) rfl rfl rfl stp) ?_
  refine own_ldj X3 hx hZ e3 Ale (v := (.long z0)) ix0 (hb hby d14_19) (hs0) (hz0) rfl rfl (g' := (mkF m 20 #[.val (.ref oo), .val (.ref p1), .val (.int (0 : Int32))] [(.long z0), (.int s0), (.ref p1)])) rfl ?_
  refine own_up (S' := T3.setTop (mkF m 21 #[.val (.ref oo), .val (.ref p1), .val (.int (0 : Int32))] [(.ref oo), (.long z0), (.int s0), (.ref p1)])) (fun t stp => XS.aloadN X3.here hx rfl (hb hby d14_20) rfl rfl stp) ?_
  refine own_get X3 hx hZ hown (hw _ (List.mem_of_getElem? (i := 18) rfl)) Via.refl e3 Fus (g' := (mkF m 24 #[.val (.ref oo), .val (.ref p1), .val (.int (0 : Int32))] [(.ref ua), (.long z0), (.int s0), (.ref p1)])) (hb hby d14_21) rfl rfl rfl ?_
  intro T4 X4 e4
  refine own_up (S' := T4.setTop (mkF m 25 #[.val (.ref oo), .val (.ref p1), .val (.int (0 : Int32))] [(.int (0 : Int32)), (.ref ua), (.long z0), (.int s0), (.ref p1)])) (fun t stp => XS.iloadN X4.here hx rfl (hb hby d14_24) rfl stp) ?_
  refine own_ldj X4 hx hZ e4 Aua (v := (.long u0)) 0 (hb hby d14_25) (rfl) (rfl) rfl rfl (g' := (mkF m 26 #[.val (.ref oo), .val (.ref p1), .val (.int (0 : Int32))] [(.long u0), (.long z0), (.int s0), (.ref p1)])) rfl ?_
  refine own_up (S' := T4.setTop (mkF m 27 #[.val (.ref oo), .val (.ref p1), .val (.int (0 : Int32))] [(.long (z0 - u0)), (.int s0), (.ref p1)])) (fun t stp => XT.lsub X4.here hx rfl (hb hby d14_26) rfl stp) ?_
  refine own_stj X4 hx hZ e4 Ale ix0 (hb hby d14_27) (hs0) ((List.getElem?_eq_some_iff.mp hz0).1) rfl rfl (g' := (mkF m 28 #[.val (.ref oo), .val (.ref p1), .val (.int (0 : Int32))] [])) rfl ?_
  intro T5 h5 X5 e5 W5 B5
  have Zn6 := Nat.le_trans Z0 (Nat.le_of_eq W5.size.symm)
  have Frs_7 := Frs.other W5 (Or.inl neo)
  have Fus_7 := Fus.other W5 (Or.inl neo)
  have Ara_7 := own_Al_oth W5 Ara ner
  have Aua_7 := own_Al_oth W5 Aua neu
  have Kp8 := (Keep.refl h0 [p1]).wr W5 (Or.inl (List.mem_of_getElem? (i := 0) rfl))
  have N5 := Fr.snoc X5 N0 gp1
  refine own_up (S' := T5.setTop (mkF m 31 #[.val (.ref oo), .val (.ref p1), .val (.int (1 : Int32))] [])) (fun t stp => XT.iincV X5.here hx rfl (1 : Int32) (hb hby d14_28) rfl rfl (l' := #[.val (.ref oo), .val (.ref p1), .val (.int (1 : Int32))]) rfl stp) ?_
  refine own_up (S' := T5.setTop (mkF m 2 #[.val (.ref oo), .val (.ref p1), .val (.int (1 : Int32))] [])) (fun t stp => XS.goto X5.here hx rfl (pc0 := 31) (pc' := 2) rfl (hb hby d14_31) (by decide) (by decide) stp) ?_
  refine own_up (S' := T5.setTop (mkF m 3 #[.val (.ref oo), .val (.ref p1), .val (.int (1 : Int32))] [(.int (1 : Int32))])) (fun t stp => XS.iloadN X5.here hx rfl (hb hby d14_2) rfl stp) ?_
  refine own_up (S' := T5.setTop (mkF m 4 #[.val (.ref oo), .val (.ref p1), .val (.int (1 : Int32))] [(.ref oo), (.int (1 : Int32))])) (fun t stp => XS.aloadN X5.here hx rfl (hb hby d14_3) rfl rfl stp) ?_
  refine own_get X5 hx hZ hown (hw _ (List.mem_of_getElem? (i := 16) rfl)) Via.refl e5 Frs_7 (g' := (mkF m 7 #[.val (.ref oo), .val (.ref p1), .val (.int (1 : Int32))] [(.ref ra), (.int (1 : Int32))])) (hb hby d14_4) rfl rfl rfl ?_
  intro T9 X9 e9
  refine own_len X9 hx hZ e9 Ara_7 (4 : Int32) (hb hby d14_7) (rfl) rfl rfl (g' := (mkF m 8 #[.val (.ref oo), .val (.ref p1), .val (.int (1 : Int32))] [(.int (4 : Int32)), (.int (1 : Int32))])) rfl ?_
  have hc8_10 : (1 : Int32) < (4 : Int32) := by decide
  refine own_up (S' := T9.setTop (mkF m 11 #[.val (.ref oo), .val (.ref p1), .val (.int (1 : Int32))] [])) (fun t stp => XS.icmpNo X9.here hx rfl (hb hby d14_8) rfl (XT.ii_ge_f hc8_10) stp) ?_
  refine own_up (S' := T9.setTop (mkF m 12 #[.val (.ref oo), .val (.ref p1), .val (.int (1 : Int32))] [(.ref p1)])) (fun t stp => XS.aloadN X9.here hx rfl (hb hby d14_11) rfl rfl stp) ?_
  refine own_up (S' := T9.setTop (mkF m 13 #[.val (.ref oo), .val (.ref p1), .val (.int (1 : Int32))] [(.ref oo), (.ref p1)])) (fun t stp => XS.aloadN X9.here hx rfl (hb hby d14_12) rfl rfl stp) ?_
  refine own_get X9 hx hZ hown (hw _ (List.mem_of_getElem? (i := 16) rfl)) Via.refl e9 Frs_7 (g' := (mkF m 16 #[.val (.ref oo), .val (.ref p1), .val (.int (1 : Int32))] [(.ref ra), (.ref p1)])) (hb hby d14_13) rfl rfl rfl ?_
  intro T11 X11 e11
  refine own_up (S' := T11.setTop (mkF m 17 #[.val (.ref oo), .val (.ref p1), .val (.int (1 : Int32))] [(.int (1 : Int32)), (.ref ra), (.ref p1)])) (fun t stp => XS.iloadN X11.here hx rfl (hb hby d14_16) rfl stp) ?_
  refine own_ldi X11 hx hZ e11 Ara_7 (v := (.int s1)) 1 (hb hby d14_17) (rfl) (rfl) rfl rfl (g' := (mkF m 18 #[.val (.ref oo), .val (.ref p1), .val (.int (1 : Int32))] [(.int s1), (.ref p1)])) rfl ?_
  refine own_up (S' := T11.setTop (mkF m 19 #[.val (.ref oo), .val (.ref p1), .val (.int (1 : Int32))] [(.int s1), (.ref p1), (.int s1), (.ref p1)])) (fun t stp => XT.dup2 X11.here hx rfl (hb hby d14_18) rfl rfl rfl stp) ?_
  refine own_ldj X11 hx hZ e11 B5 (v := (.long z1)) ix1 (hb hby d14_19) (hs1) (hz1) rfl rfl (g' := (mkF m 20 #[.val (.ref oo), .val (.ref p1), .val (.int (1 : Int32))] [(.long z1), (.int s1), (.ref p1)])) rfl ?_
  refine own_up (S' := T11.setTop (mkF m 21 #[.val (.ref oo), .val (.ref p1), .val (.int (1 : Int32))] [(.ref oo), (.long z1), (.int s1), (.ref p1)])) (fun t stp => XS.aloadN X11.here hx rfl (hb hby d14_20) rfl rfl stp) ?_
  refine own_get X11 hx hZ hown (hw _ (List.mem_of_getElem? (i := 18) rfl)) Via.refl e11 Fus_7 (g' := (mkF m 24 #[.val (.ref oo), .val (.ref p1), .val (.int (1 : Int32))] [(.ref ua), (.long z1), (.int s1), (.ref p1)])) (hb hby d14_21) rfl rfl rfl ?_
  intro T12 X12 e12
  refine own_up (S' := T12.setTop (mkF m 25 #[.val (.ref oo), .val (.ref p1), .val (.int (1 : Int32))] [(.int (1 : Int32)), (.ref ua), (.long z1), (.int s1), (.ref p1)])) (fun t stp => XS.iloadN X12.here hx rfl (hb hby d14_24) rfl stp) ?_
  refine own_ldj X12 hx hZ e12 Aua_7 (v := (.long u1)) 1 (hb hby d14_25) (rfl) (rfl) rfl rfl (g' := (mkF m 26 #[.val (.ref oo), .val (.ref p1), .val (.int (1 : Int32))] [(.long u1), (.long z1), (.int s1), (.ref p1)])) rfl ?_
  refine own_up (S' := T12.setTop (mkF m 27 #[.val (.ref oo), .val (.ref p1), .val (.int (1 : Int32))] [(.long (z1 - u1)), (.int s1), (.ref p1)])) (fun t stp => XT.lsub X12.here hx rfl (hb hby d14_26) rfl stp) ?_
  refine own_stj X12 hx hZ e12 B5 ix1 (hb hby d14_27) (hs1) ((List.getElem?_eq_some_iff.mp hz1).1) rfl rfl (g' := (mkF m 28 #[.val (.ref oo), .val (.ref p1), .val (.int (1 : Int32))] [])) rfl ?_
  intro T13 h13 X13 e13 W13 B13
  have Zn14 := Nat.le_trans Zn6 (Nat.le_of_eq W13.size.symm)
  have Frs_15 := Frs_7.other W13 (Or.inl neo)
  have Fus_15 := Fus_7.other W13 (Or.inl neo)
  have Ara_15 := own_Al_oth W13 Ara_7 ner
  have Aua_15 := own_Al_oth W13 Aua_7 neu
  have Kp16 := Kp8.wr W13 (Or.inl (List.mem_of_getElem? (i := 0) rfl))
  have N13 := Fr.snoc X13 N5 gp1
  refine own_up (S' := T13.setTop (mkF m 31 #[.val (.ref oo), .val (.ref p1), .val (.int (2 : Int32))] [])) (fun t stp => XT.iincV X13.here hx rfl (1 : Int32) (hb hby d14_28) rfl rfl (l' := #[.val (.ref oo), .val (.ref p1), .val (.int (2 : Int32))]) rfl stp) ?_
  refine own_up (S' := T13.setTop (mkF m 2 #[.val (.ref oo), .val (.ref p1), .val (.int (2 : Int32))] [])) (fun t stp => XS.goto X13.here hx rfl (pc0 := 31) (pc' := 2) rfl (hb hby d14_31) (by decide) (by decide) stp) ?_
  refine own_up (S' := T13.setTop (mkF m 3 #[.val (.ref oo), .val (.ref p1), .val (.int (2 : Int32))] [(.int (2 : Int32))])) (fun t stp => XS.iloadN X13.here hx rfl (hb hby d14_2) rfl stp) ?_
  refine own_up (S' := T13.setTop (mkF m 4 #[.val (.ref oo), .val (.ref p1), .val (.int (2 : Int32))] [(.ref oo), (.int (2 : Int32))])) (fun t stp => XS.aloadN X13.here hx rfl (hb hby d14_3) rfl rfl stp) ?_
  refine own_get X13 hx hZ hown (hw _ (List.mem_of_getElem? (i := 16) rfl)) Via.refl e13 Frs_15 (g' := (mkF m 7 #[.val (.ref oo), .val (.ref p1), .val (.int (2 : Int32))] [(.ref ra), (.int (2 : Int32))])) (hb hby d14_4) rfl rfl rfl ?_
  intro T17 X17 e17
  refine own_len X17 hx hZ e17 Ara_15 (4 : Int32) (hb hby d14_7) (rfl) rfl rfl (g' := (mkF m 8 #[.val (.ref oo), .val (.ref p1), .val (.int (2 : Int32))] [(.int (4 : Int32)), (.int (2 : Int32))])) rfl ?_
  have hc8_18 : (2 : Int32) < (4 : Int32) := by decide
  refine own_up (S' := T17.setTop (mkF m 11 #[.val (.ref oo), .val (.ref p1), .val (.int (2 : Int32))] [])) (fun t stp => XS.icmpNo X17.here hx rfl (hb hby d14_8) rfl (XT.ii_ge_f hc8_18) stp) ?_
  refine own_up (S' := T17.setTop (mkF m 12 #[.val (.ref oo), .val (.ref p1), .val (.int (2 : Int32))] [(.ref p1)])) (fun t stp => XS.aloadN X17.here hx rfl (hb hby d14_11) rfl rfl stp) ?_
  refine own_up (S' := T17.setTop (mkF m 13 #[.val (.ref oo), .val (.ref p1), .val (.int (2 : Int32))] [(.ref oo), (.ref p1)])) (fun t stp => XS.aloadN X17.here hx rfl (hb hby d14_12) rfl rfl stp) ?_
  refine own_get X17 hx hZ hown (hw _ (List.mem_of_getElem? (i := 16) rfl)) Via.refl e17 Frs_15 (g' := (mkF m 16 #[.val (.ref oo), .val (.ref p1), .val (.int (2 : Int32))] [(.ref ra), (.ref p1)])) (hb hby d14_13) rfl rfl rfl ?_
  intro T19 X19 e19
  refine own_up (S' := T19.setTop (mkF m 17 #[.val (.ref oo), .val (.ref p1), .val (.int (2 : Int32))] [(.int (2 : Int32)), (.ref ra), (.ref p1)])) (fun t stp => XS.iloadN X19.here hx rfl (hb hby d14_16) rfl stp) ?_
  refine own_ldi X19 hx hZ e19 Ara_15 (v := (.int s2)) 2 (hb hby d14_17) (rfl) (rfl) rfl rfl (g' := (mkF m 18 #[.val (.ref oo), .val (.ref p1), .val (.int (2 : Int32))] [(.int s2), (.ref p1)])) rfl ?_
  refine own_up (S' := T19.setTop (mkF m 19 #[.val (.ref oo), .val (.ref p1), .val (.int (2 : Int32))] [(.int s2), (.ref p1), (.int s2), (.ref p1)])) (fun t stp => XT.dup2 X19.here hx rfl (hb hby d14_18) rfl rfl rfl stp) ?_
  refine own_ldj X19 hx hZ e19 B13 (v := (.long z2)) ix2 (hb hby d14_19) (hs2) (hz2) rfl rfl (g' := (mkF m 20 #[.val (.ref oo), .val (.ref p1), .val (.int (2 : Int32))] [(.long z2), (.int s2), (.ref p1)])) rfl ?_
  refine own_up (S' := T19.setTop (mkF m 21 #[.val (.ref oo), .val (.ref p1), .val (.int (2 : Int32))] [(.ref oo), (.long z2), (.int s2), (.ref p1)])) (fun t stp => XS.aloadN X19.here hx rfl (hb hby d14_20) rfl rfl stp) ?_
  refine own_get X19 hx hZ hown (hw _ (List.mem_of_getElem? (i := 18) rfl)) Via.refl e19 Fus_15 (g' := (mkF m 24 #[.val (.ref oo), .val (.ref p1), .val (.int (2 : Int32))] [(.ref ua), (.long z2), (.int s2), (.ref p1)])) (hb hby d14_21) rfl rfl rfl ?_
  intro T20 X20 e20
  refine own_up (S' := T20.setTop (mkF m 25 #[.val (.ref oo), .val (.ref p1), .val (.int (2 : Int32))] [(.int (2 : Int32)), (.ref ua), (.long z2), (.int s2), (.ref p1)])) (fun t stp => XS.iloadN X20.here hx rfl (hb hby d14_24) rfl stp) ?_
  refine own_ldj X20 hx hZ e20 Aua_15 (v := (.long u2)) 2 (hb hby d14_25) (rfl) (rfl) rfl rfl (g' := (mkF m 26 #[.val (.ref oo), .val (.ref p1), .val (.int (2 : Int32))] [(.long u2), (.long z2), (.int s2), (.ref p1)])) rfl ?_
  refine own_up (S' := T20.setTop (mkF m 27 #[.val (.ref oo), .val (.ref p1), .val (.int (2 : Int32))] [(.long (z2 - u2)), (.int s2), (.ref p1)])) (fun t stp => XT.lsub X20.here hx rfl (hb hby d14_26) rfl stp) ?_
  refine own_stj X20 hx hZ e20 B13 ix2 (hb hby d14_27) (hs2) ((List.getElem?_eq_some_iff.mp hz2).1) rfl rfl (g' := (mkF m 28 #[.val (.ref oo), .val (.ref p1), .val (.int (2 : Int32))] [])) rfl ?_
  intro T21 h21 X21 e21 W21 B21
  have Zn22 := Nat.le_trans Zn14 (Nat.le_of_eq W21.size.symm)
  have Frs_23 := Frs_15.other W21 (Or.inl neo)
  have Fus_23 := Fus_15.other W21 (Or.inl neo)
  have Ara_23 := own_Al_oth W21 Ara_15 ner
  have Aua_23 := own_Al_oth W21 Aua_15 neu
  have Kp24 := Kp16.wr W21 (Or.inl (List.mem_of_getElem? (i := 0) rfl))
  have N21 := Fr.snoc X21 N13 gp1
  refine own_up (S' := T21.setTop (mkF m 31 #[.val (.ref oo), .val (.ref p1), .val (.int (3 : Int32))] [])) (fun t stp => XT.iincV X21.here hx rfl (1 : Int32) (hb hby d14_28) rfl rfl (l' := #[.val (.ref oo), .val (.ref p1), .val (.int (3 : Int32))]) rfl stp) ?_
  refine own_up (S' := T21.setTop (mkF m 2 #[.val (.ref oo), .val (.ref p1), .val (.int (3 : Int32))] [])) (fun t stp => XS.goto X21.here hx rfl (pc0 := 31) (pc' := 2) rfl (hb hby d14_31) (by decide) (by decide) stp) ?_
  refine own_up (S' := T21.setTop (mkF m 3 #[.val (.ref oo), .val (.ref p1), .val (.int (3 : Int32))] [(.int (3 : Int32))])) (fun t stp => XS.iloadN X21.here hx rfl (hb hby d14_2) rfl stp) ?_
  refine own_up (S' := T21.setTop (mkF m 4 #[.val (.ref oo), .val (.ref p1), .val (.int (3 : Int32))] [(.ref oo), (.int (3 : Int32))])) (fun t stp => XS.aloadN X21.here hx rfl (hb hby d14_3) rfl rfl stp) ?_
  refine own_get X21 hx hZ hown (hw _ (List.mem_of_getElem? (i := 16) rfl)) Via.refl e21 Frs_23 (g' := (mkF m 7 #[.val (.ref oo), .val (.ref p1), .val (.int (3 : Int32))] [(.ref ra), (.int (3 : Int32))])) (hb hby d14_4) rfl rfl rfl ?_
  intro T25 X25 e25
  refine own_len X25 hx hZ e25 Ara_23 (4 : Int32) (hb hby d14_7) (rfl) rfl rfl (g' := (mkF m 8 #[.val (.ref oo), .val (.ref p1), .val (.int (3 : Int32))] [(.int (4 : Int32)), (.int (3 : Int32))])) rfl ?_
  have hc8_26 : (3 : Int32) < (4 : Int32) := by decide
  refine own_up (S' := T25.setTop (mkF m 11 #[.val (.ref oo), .val (.ref p1), .val (.int (3 : Int32))] [])) (fun t stp => XS.icmpNo X25.here hx rfl (hb hby d14_8) rfl (XT.ii_ge_f hc8_26) stp) ?_
  refine own_up (S' := T25.setTop (mkF m 12 #[.val (.ref oo), .val (.ref p1), .val (.int (3 : Int32))] [(.ref p1)])) (fun t stp => XS.aloadN X25.here hx rfl (hb hby d14_11) rfl rfl stp) ?_
  refine own_up (S' := T25.setTop (mkF m 13 #[.val (.ref oo), .val (.ref p1), .val (.int (3 : Int32))] [(.ref oo), (.ref p1)])) (fun t stp => XS.aloadN X25.here hx rfl (hb hby d14_12) rfl rfl stp) ?_
  refine own_get X25 hx hZ hown (hw _ (List.mem_of_getElem? (i := 16) rfl)) Via.refl e25 Frs_23 (g' := (mkF m 16 #[.val (.ref oo), .val (.ref p1), .val (.int (3 : Int32))] [(.ref ra), (.ref p1)])) (hb hby d14_13) rfl rfl rfl ?_
  intro T27 X27 e27
  refine own_up (S' := T27.setTop (mkF m 17 #[.val (.ref oo), .val (.ref p1), .val (.int (3 : Int32))] [(.int (3 : Int32)), (.ref ra), (.ref p1)])) (fun t stp => XS.iloadN X27.here hx rfl (hb hby d14_16) rfl stp) ?_
  refine own_ldi X27 hx hZ e27 Ara_23 (v := (.int s3)) 3 (hb hby d14_17) (rfl) (rfl) rfl rfl (g' := (mkF m 18 #[.val (.ref oo), .val (.ref p1), .val (.int (3 : Int32))] [(.int s3), (.ref p1)])) rfl ?_
  refine own_up (S' := T27.setTop (mkF m 19 #[.val (.ref oo), .val (.ref p1), .val (.int (3 : Int32))] [(.int s3), (.ref p1), (.int s3), (.ref p1)])) (fun t stp => XT.dup2 X27.here hx rfl (hb hby d14_18) rfl rfl rfl stp) ?_
  refine own_ldj X27 hx hZ e27 B21 (v := (.long z3)) ix3 (hb hby d14_19) (hs3) (hz3) rfl rfl (g' := (mkF m 20 #[.val (.ref oo), .val (.ref p1), .val (.int (3 : Int32))] [(.long z3), (.int s3), (.ref p1)])) rfl ?_
  refine own_up (S' := T27.setTop (mkF m 21 #[.val (.ref oo), .val (.ref p1), .val (.int (3 : Int32))] [(.ref oo), (.long z3), (.int s3), (.ref p1)])) (fun t stp => XS.aloadN X27.here hx rfl (hb hby d14_20) rfl rfl stp) ?_
  refine own_get X27 hx hZ hown (hw _ (List.mem_of_getElem? (i := 18) rfl)) Via.refl e27 Fus_23 (g' := (mkF m 24 #[.val (.ref oo), .val (.ref p1), .val (.int (3 : Int32))] [(.ref ua), (.long z3), (.int s3), (.ref p1)])) (hb hby d14_21) rfl rfl rfl ?_
  intro T28 X28 e28
  refine own_up (S' := T28.setTop (mkF m 25 #[.val (.ref oo), .val (.ref p1), .val (.int (3 : Int32))] [(.int (3 : Int32)), (.ref ua), (.long z3), (.int s3), (.ref p1)])) (fun t stp => XS.iloadN X28.here hx rfl (hb hby d14_24) rfl stp) ?_
  refine own_ldj X28 hx hZ e28 Aua_23 (v := (.long u3)) 3 (hb hby d14_25) (rfl) (rfl) rfl rfl (g' := (mkF m 26 #[.val (.ref oo), .val (.ref p1), .val (.int (3 : Int32))] [(.long u3), (.long z3), (.int s3), (.ref p1)])) rfl ?_
  refine own_up (S' := T28.setTop (mkF m 27 #[.val (.ref oo), .val (.ref p1), .val (.int (3 : Int32))] [(.long (z3 - u3)), (.int s3), (.ref p1)])) (fun t stp => XT.lsub X28.here hx rfl (hb hby d14_26) rfl stp) ?_
  refine own_stj X28 hx hZ e28 B21 ix3 (hb hby d14_27) (hs3) ((List.getElem?_eq_some_iff.mp hz3).1) rfl rfl (g' := (mkF m 28 #[.val (.ref oo), .val (.ref p1), .val (.int (3 : Int32))] [])) rfl ?_
  intro T29 h29 X29 e29 W29 B29
  have Zn30 := Nat.le_trans Zn22 (Nat.le_of_eq W29.size.symm)
  have Frs_31 := Frs_23.other W29 (Or.inl neo)
  have Fus_31 := Fus_23.other W29 (Or.inl neo)
  have Ara_31 := own_Al_oth W29 Ara_23 ner
  have Aua_31 := own_Al_oth W29 Aua_23 neu
  have Kp32 := Kp24.wr W29 (Or.inl (List.mem_of_getElem? (i := 0) rfl))
  have N29 := Fr.snoc X29 N21 gp1
  refine own_up (S' := T29.setTop (mkF m 31 #[.val (.ref oo), .val (.ref p1), .val (.int (4 : Int32))] [])) (fun t stp => XT.iincV X29.here hx rfl (1 : Int32) (hb hby d14_28) rfl rfl (l' := #[.val (.ref oo), .val (.ref p1), .val (.int (4 : Int32))]) rfl stp) ?_
  refine own_up (S' := T29.setTop (mkF m 2 #[.val (.ref oo), .val (.ref p1), .val (.int (4 : Int32))] [])) (fun t stp => XS.goto X29.here hx rfl (pc0 := 31) (pc' := 2) rfl (hb hby d14_31) (by decide) (by decide) stp) ?_
  refine own_up (S' := T29.setTop (mkF m 3 #[.val (.ref oo), .val (.ref p1), .val (.int (4 : Int32))] [(.int (4 : Int32))])) (fun t stp => XS.iloadN X29.here hx rfl (hb hby d14_2) rfl stp) ?_
  refine own_up (S' := T29.setTop (mkF m 4 #[.val (.ref oo), .val (.ref p1), .val (.int (4 : Int32))] [(.ref oo), (.int (4 : Int32))])) (fun t stp => XS.aloadN X29.here hx rfl (hb hby d14_3) rfl rfl stp) ?_
  refine own_get X29 hx hZ hown (hw _ (List.mem_of_getElem? (i := 16) rfl)) Via.refl e29 Frs_31 (g' := (mkF m 7 #[.val (.ref oo), .val (.ref p1), .val (.int (4 : Int32))] [(.ref ra), (.int (4 : Int32))])) (hb hby d14_4) rfl rfl rfl ?_
  intro T33 X33 e33
  refine own_len X33 hx hZ e33 Ara_31 (4 : Int32) (hb hby d14_7) (rfl) rfl rfl (g' := (mkF m 8 #[.val (.ref oo), .val (.ref p1), .val (.int (4 : Int32))] [(.int (4 : Int32)), (.int (4 : Int32))])) rfl ?_
  have hc8_34 : ¬ ((4 : Int32) < (4 : Int32)) := by decide
  refine own_up (S' := T33.setTop (mkF m 34 #[.val (.ref oo), .val (.ref p1), .val (.int (4 : Int32))] [])) (fun t stp => XS.icmpYes X33.here hx rfl (pc0 := 8) (pc' := 34) rfl (hb hby d14_8) rfl (XT.ii_ge_t hc8_34) (by decide) (by decide) stp) ?_
  refine own_retV X33 hx hlk hret (hb hby d14_34) (by decide) (by decide) ?_
  show own_Q14 Z oo p1 ra ua vs s0 u0 ix0 z0 s1 u1 ix1 z1 s2 u2 ix2 z2 s3 u3 ix3 z3 h0 n0 _ T33.heap _
  rw [e33]
  exact ⟨rfl, N29, Kp32, B29⟩
theorem own_ef0 (l0 : Int64) (l1 : Int64) (l2 : Int64) (u0 : Int64) (u1 : Int64) (sel : Int32) (m : MethodId) : entryFrame m #[(.long l0), (.long l1), (.long l2), (.long u0), (.long u1), (.int sel)] maxLocals = mkF m 0 #[.val (.long l0), .second, .val (.long l1), .second, .val (.long l2), .second, .val (.long u0), .second, .val (.long u1), .second, .val (.int sel), .unset, .unset, .unset, .unset, .unset, .unset, .unset, .unset, .unset, .unset, .unset, .unset, .unset, .unset, .unset, .unset, .unset, .unset, .unset, .unset, .unset, .unset, .unset, .unset, .unset, .unset, .unset, .unset, .unset] [] := by first | (simp [entryFrame, mkF, argsToLocals, Value.category, maxLocals]; done) | rfl
def own_Q0 (Z : State) (l0 : Int64) (l1 : Int64) (l2 : Int64) (u0 : Int64) (u1 : Int64) (sel : Int32)  (h0 : Heap) (n0 : Nat) (v : Option Value) (h : Heap) (L : List Loc) : Prop := v = some (.int 1) ∧ Fr n0 L
set_option maxRecDepth 65536 in
set_option maxHeartbeats 40000000 in
theorem rm0 (l : Launch) (Z : State) (a0 : Array Value) (hw : ∀ d ∈ tables_1, d.before a0 Z = true) (ws : List Jvm.Cond) (l0 : Int64) (l1 : Int64) (l2 : Int64) (u0 : Int64) (u1 : Int64) (sel : Int32)  (h0 : Heap) (n0 : Nat) (Z0 : n0 ≤ h0.size)  :
    MetFree l x (head1 (Jvm.Cond.code x code maxLocals ret :: ws) room_1) (fun a U => a = #[(.long l0), (.long l1), (.long l2), (.long u0), (.long u1), (.int sel)] ∧ Z.Warmed39 U.vm ∧ U.heap = h0) (fun _ _ _ _ _ => True) (fun _ U o U' => ∃ v L, o = .returned v ∧ own_Q0 Z l0 l1 l2 u0 u1 sel h0 n0 v U'.heap L ∧ FrameEnd U o U' L room_1.cells room_1.slots) := by
  refine own_met (Q := own_Q0 Z l0 l1 l2 u0 u1 sel h0 n0) (plainFor_of_name (by first | (simp [plainName, overriddenIn, x]; done) | decide +kernel)) (own_ef0 l0 l1 l2 u0 u1 sel) ?_
  intro p e s m below meth c T0 hx hby hml hown hnm hret hlk hZ e0 X0
  have hown : s.vm.findClass "com/example/outcry/outcry/combinatorial/BundleTakePinLaw" = some m.cls := hown
  have N0 := Fr.nil n0
  obtain ⟨La1, hLa1⟩ : ∃ L : Array Slot, L = #[.val (.long l0), .second, .val (.long l1), .second, .val (.long l2), .second, .val (.long u0), .second, .val (.long u1), .second, .val (.int sel), .unset, .unset, .unset, .unset, .unset, .unset, .unset, .unset, .unset, .unset, .unset, .unset, .unset, .unset, .unset, .unset, .unset, .unset, .unset, .unset, .unset, .unset, .unset, .unset, .unset, .unset, .unset, .unset, .unset] := ⟨_, rfl⟩
  rw [← hLa1]
  refine own_up (S' := T0.setTop (mkF m 2 La1 [(.int sel)])) (fun t stp => XS.iload X0.here hx rfl (hb hby at_0) (by rw [hLa1]; rfl) stp) ?_
  refine own_up (S' := T0.setTop (mkF m 4 La1 [(.int (15 : Int32)), (.int sel)])) (fun t stp => XT.bipushV X0.here hx rfl (15 : Int32) (hb hby at_2) rfl stp) ?_
  refine own_up (S' := T0.setTop (mkF m 5 La1 [(.int (sel &&& (15 : Int32)))])) (fun t stp => XS.iand X0.here hx rfl (hb hby at_4) rfl stp) ?_
  obtain ⟨mm, h_mm⟩ : ∃ z : Int32, z = (sel &&& (15 : Int32)) := ⟨_, rfl⟩
  rw [← h_mm]
  obtain ⟨La2, hLa2⟩ : ∃ L : Array Slot, L = #[.val (.long l0), .second, .val (.long l1), .second, .val (.long l2), .second, .val (.long u0), .second, .val (.long u1), .second, .val (.int sel), .val (.int mm), .unset, .unset, .unset, .unset, .unset, .unset, .unset, .unset, .unset, .unset, .unset, .unset, .unset, .unset, .unset, .unset, .unset, .unset, .unset, .unset, .unset, .unset, .unset, .unset, .unset, .unset, .unset, .unset] := ⟨_, rfl⟩
  refine own_up (S' := T0.setTop (mkF m 7 La2 [])) (fun t stp => XS.istore X0.here hx rfl (hb hby at_5) rfl (l' := La2) (by rw [hLa1, hLa2]; rfl) stp) ?_
  refine own_up (S' := T0.setTop (mkF m 9 La2 [(.int mm)])) (fun t stp => XS.iload X0.here hx rfl (hb hby at_7) (by rw [hLa2]; rfl) stp) ?_
  refine own_up (S' := T0.setTop (mkF m 10 La2 [(.int (1 : Int32)), (.int mm)])) (fun t stp => XT.iconstV X0.here hx rfl (1 : Int32) (hb hby at_9) rfl stp) ?_
  refine own_up (S' := T0.setTop (mkF m 11 La2 [(.int (mm &&& (1 : Int32)))])) (fun t stp => XS.iand X0.here hx rfl (hb hby at_10) rfl stp) ?_
  by_cases hc11_3 : (mm &&& (1 : Int32)) = 0
  · have ihc11_3 : (mm &&& (1 : Int32)).toInt = 0 := own_ieq hc11_3
    refine own_up (S' := T0.setTop (mkF m 18 La2 [])) (fun t stp => XS.ifYes X0.here hx rfl (pc0 := 11) (pc' := 18) rfl (hb hby at_11) rfl (XT.i0_eq_t hc11_3) (by decide) (by decide) stp) ?_
    refine own_up (S' := T0.setTop (mkF m 19 La2 [(.int (0 : Int32))])) (fun t stp => XT.iconstV X0.here hx rfl (0 : Int32) (hb hby at_18) rfl stp) ?_
    obtain ⟨La4, hLa4⟩ : ∃ L : Array Slot, L = #[.val (.long l0), .second, .val (.long l1), .second, .val (.long l2), .second, .val (.long u0), .second, .val (.long u1), .second, .val (.int sel), .val (.int mm), .val (.int (0 : Int32)), .unset, .unset, .unset, .unset, .unset, .unset, .unset, .unset, .unset, .unset, .unset, .unset, .unset, .unset, .unset, .unset, .unset, .unset, .unset, .unset, .unset, .unset, .unset, .unset, .unset, .unset, .unset] := ⟨_, rfl⟩
    refine own_up (S' := T0.setTop (mkF m 21 La4 [])) (fun t stp => XS.istore X0.here hx rfl (hb hby at_19) rfl (l' := La4) (by rw [hLa2, hLa4]; rfl) stp) ?_
    refine own_up (S' := T0.setTop (mkF m 23 La4 [(.int mm)])) (fun t stp => XS.iload X0.here hx rfl (hb hby at_21) (by rw [hLa4]; rfl) stp) ?_
    refine own_up (S' := T0.setTop (mkF m 24 La4 [(.int (2 : Int32)), (.int mm)])) (fun t stp => XT.iconstV X0.here hx rfl (2 : Int32) (hb hby at_23) rfl stp) ?_
    refine own_up (S' := T0.setTop (mkF m 25 La4 [(.int (mm &&& (2 : Int32)))])) (fun t stp => XS.iand X0.here hx rfl (hb hby at_24) rfl stp) ?_
    by_cases hc25_5 : (mm &&& (2 : Int32)) = 0
    · have ihc25_5 : (mm &&& (2 : Int32)).toInt = 0 := own_ieq hc25_5
      refine own_up (S' := T0.setTop (mkF m 32 La4 [])) (fun t stp => XS.ifYes X0.here hx rfl (pc0 := 25) (pc' := 32) rfl (hb hby at_25) rfl (XT.i0_eq_t hc25_5) (by decide) (by decide) stp) ?_
      refine own_up (S' := T0.setTop (mkF m 33 La4 [(.int (0 : Int32))])) (fun t stp => XT.iconstV X0.here hx rfl (0 : Int32) (hb hby at_32) rfl stp) ?_
      obtain ⟨La6, hLa6⟩ : ∃ L : Array Slot, L = #[.val (.long l0), .second, .val (.long l1), .second, .val (.long l2), .second, .val (.long u0), .second, .val (.long u1), .second, .val (.int sel), .val (.int mm), .val (.int (0 : Int32)), .val (.int (0 : Int32)), .unset, .unset, .unset, .unset, .unset, .unset, .unset, .unset, .unset, .unset, .unset, .unset, .unset, .unset, .unset, .unset, .unset, .unset, .unset, .unset, .unset, .unset, .unset, .unset, .unset, .unset] := ⟨_, rfl⟩
      refine own_up (S' := T0.setTop (mkF m 35 La6 [])) (fun t stp => XS.istore X0.here hx rfl (hb hby at_33) rfl (l' := La6) (by rw [hLa4, hLa6]; rfl) stp) ?_
      refine own_up (S' := T0.setTop (mkF m 37 La6 [(.int mm)])) (fun t stp => XS.iload X0.here hx rfl (hb hby at_35) (by rw [hLa6]; rfl) stp) ?_
      refine own_up (S' := T0.setTop (mkF m 38 La6 [(.int (4 : Int32)), (.int mm)])) (fun t stp => XT.iconstV X0.here hx rfl (4 : Int32) (hb hby at_37) rfl stp) ?_
      refine own_up (S' := T0.setTop (mkF m 39 La6 [(.int (mm &&& (4 : Int32)))])) (fun t stp => XS.iand X0.here hx rfl (hb hby at_38) rfl stp) ?_
      by_cases hc39_7 : (mm &&& (4 : Int32)) = 0
      · have ihc39_7 : (mm &&& (4 : Int32)).toInt = 0 := own_ieq hc39_7
        refine own_up (S' := T0.setTop (mkF m 46 La6 [])) (fun t stp => XS.ifYes X0.here hx rfl (pc0 := 39) (pc' := 46) rfl (hb hby at_39) rfl (XT.i0_eq_t hc39_7) (by decide) (by decide) stp) ?_
        refine own_up (S' := T0.setTop (mkF m 47 La6 [(.int (0 : Int32))])) (fun t stp => XT.iconstV X0.here hx rfl (0 : Int32) (hb hby at_46) rfl stp) ?_
        obtain ⟨La8, hLa8⟩ : ∃ L : Array Slot, L = #[.val (.long l0), .second, .val (.long l1), .second, .val (.long l2), .second, .val (.long u0), .second, .val (.long u1), .second, .val (.int sel), .val (.int mm), .val (.int (0 : Int32)), .val (.int (0 : Int32)), .val (.int (0 : Int32)), .unset, .unset, .unset, .unset, .unset, .unset, .unset, .unset, .unset, .unset, .unset, .unset, .unset, .unset, .unset, .unset, .unset, .unset, .unset, .unset, .unset, .unset, .unset, .unset, .unset] := ⟨_, rfl⟩
        refine own_up (S' := T0.setTop (mkF m 49 La8 [])) (fun t stp => XS.istore X0.here hx rfl (hb hby at_47) rfl (l' := La8) (by rw [hLa6, hLa8]; rfl) stp) ?_
        refine own_up (S' := T0.setTop (mkF m 51 La8 [(.int mm)])) (fun t stp => XS.iload X0.here hx rfl (hb hby at_49) (by rw [hLa8]; rfl) stp) ?_
        refine own_up (S' := T0.setTop (mkF m 53 La8 [(.int (8 : Int32)), (.int mm)])) (fun t stp => XT.bipushV X0.here hx rfl (8 : Int32) (hb hby at_51) rfl stp) ?_
        refine own_up (S' := T0.setTop (mkF m 54 La8 [(.int (mm &&& (8 : Int32)))])) (fun t stp => XS.iand X0.here hx rfl (hb hby at_53) rfl stp) ?_
        by_cases hc54_9 : (mm &&& (8 : Int32)) = 0
        · have ihc54_9 : (mm &&& (8 : Int32)).toInt = 0 := own_ieq hc54_9
          refine own_up (S' := T0.setTop (mkF m 61 La8 [])) (fun t stp => XS.ifYes X0.here hx rfl (pc0 := 54) (pc' := 61) rfl (hb hby at_54) rfl (XT.i0_eq_t hc54_9) (by decide) (by decide) stp) ?_
          refine own_up (S' := T0.setTop (mkF m 62 La8 [(.int (0 : Int32))])) (fun t stp => XT.iconstV X0.here hx rfl (0 : Int32) (hb hby at_61) rfl stp) ?_
          obtain ⟨La10, hLa10⟩ : ∃ L : Array Slot, L = #[.val (.long l0), .second, .val (.long l1), .second, .val (.long l2), .second, .val (.long u0), .second, .val (.long u1), .second, .val (.int sel), .val (.int mm), .val (.int (0 : Int32)), .val (.int (0 : Int32)), .val (.int (0 : Int32)), .val (.int (0 : Int32)), .unset, .unset, .unset, .unset, .unset, .unset, .unset, .unset, .unset, .unset, .unset, .unset, .unset, .unset, .unset, .unset, .unset, .unset, .unset, .unset, .unset, .unset, .unset, .unset] := ⟨_, rfl⟩
          refine own_up (S' := T0.setTop (mkF m 64 La10 [])) (fun t stp => XS.istore X0.here hx rfl (hb hby at_62) rfl (l' := La10) (by rw [hLa8, hLa10]; rfl) stp) ?_
          refine own_up (S' := T0.setTop (mkF m 66 La10 [(.long u0)])) (fun t stp => XT.lload X0.here hx rfl (hb hby at_64) (by rw [hLa10]; rfl) stp) ?_
          obtain ⟨La11, hLa11⟩ : ∃ L : Array Slot, L = #[.val (.long l0), .second, .val (.long l1), .second, .val (.long l2), .second, .val (.long u0), .second, .val (.long u1), .second, .val (.int sel), .val (.int mm), .val (.int (0 : Int32)), .val (.int (0 : Int32)), .val (.int (0 : Int32)), .val (.int (0 : Int32)), .val (.long u0), .second, .unset, .unset, .unset, .unset, .unset, .unset, .unset, .unset, .unset, .unset, .unset, .unset, .unset, .unset, .unset, .unset, .unset, .unset, .unset, .unset, .unset, .unset] := ⟨_, rfl⟩
          refine own_up (S' := T0.setTop (mkF m 68 La11 [])) (fun t stp => XT.lstore X0.here hx rfl (hb hby at_66) rfl (l' := La11) (by rw [hLa10, hLa11]; rfl) stp) ?_
          refine own_up (S' := T0.setTop (mkF m 70 La11 [(.long u1)])) (fun t stp => XT.lload X0.here hx rfl (hb hby at_68) (by rw [hLa11]; rfl) stp) ?_
          obtain ⟨La12, hLa12⟩ : ∃ L : Array Slot, L = #[.val (.long l0), .second, .val (.long l1), .second, .val (.long l2), .second, .val (.long u0), .second, .val (.long u1), .second, .val (.int sel), .val (.int mm), .val (.int (0 : Int32)), .val (.int (0 : Int32)), .val (.int (0 : Int32)), .val (.int (0 : Int32)), .val (.long u0), .second, .val (.long u1), .second, .unset, .unset, .unset, .unset, .unset, .unset, .unset, .unset, .unset, .unset, .unset, .unset, .unset, .unset, .unset, .unset, .unset, .unset, .unset, .unset] := ⟨_, rfl⟩
          refine own_up (S' := T0.setTop (mkF m 72 La12 [])) (fun t stp => XT.lstore X0.here hx rfl (hb hby at_70) rfl (l' := La12) (by rw [hLa11, hLa12]; rfl) stp) ?_
          refine own_up (S' := T0.setTop (mkF m 74 La12 [(.long u0)])) (fun t stp => XT.lload X0.here hx rfl (hb hby at_72) (by rw [hLa12]; rfl) stp) ?_
          refine own_up (S' := T0.setTop (mkF m 76 La12 [(.long u1), (.long u0)])) (fun t stp => XT.lload X0.here hx rfl (hb hby at_74) (by rw [hLa12]; rfl) stp) ?_
          refine own_up (S' := T0.setTop (mkF m 77 La12 [(.long (u0 - u1))])) (fun t stp => XT.lsub X0.here hx rfl (hb hby at_76) rfl stp) ?_
          obtain ⟨v2, h_v2⟩ : ∃ z : Int64, z = (u0 - u1) := ⟨_, rfl⟩
          rw [← h_v2]
          obtain ⟨La13, hLa13⟩ : ∃ L : Array Slot, L = #[.val (.long l0), .second, .val (.long l1), .second, .val (.long l2), .second, .val (.long u0), .second, .val (.long u1), .second, .val (.int sel), .val (.int mm), .val (.int (0 : Int32)), .val (.int (0 : Int32)), .val (.int (0 : Int32)), .val (.int (0 : Int32)), .val (.long u0), .second, .val (.long u1), .second, .val (.long v2), .second, .unset, .unset, .unset, .unset, .unset, .unset, .unset, .unset, .unset, .unset, .unset, .unset, .unset, .unset, .unset, .unset, .unset, .unset] := ⟨_, rfl⟩
          refine own_up (S' := T0.setTop (mkF m 79 La13 [])) (fun t stp => XT.lstore X0.here hx rfl (hb hby at_77) rfl (l' := La13) (by rw [hLa12, hLa13]; rfl) stp) ?_
          refine own_up (S' := T0.setTop (mkF m 81 La13 [(.long u1)])) (fun t stp => XT.lload X0.here hx rfl (hb hby at_79) (by rw [hLa13]; rfl) stp) ?_
          refine own_up (S' := T0.setTop (mkF m 83 La13 [(.long l2), (.long u1)])) (fun t stp => XT.lload X0.here hx rfl (hb hby at_81) (by rw [hLa13]; rfl) stp) ?_
          refine own_up (S' := T0.setTop (mkF m 84 La13 [(.long (u1 ^^^ l2))])) (fun t stp => XT.lxor X0.here hx rfl (hb hby at_83) rfl stp) ?_
          obtain ⟨v3, h_v3⟩ : ∃ z : Int64, z = (u1 ^^^ l2) := ⟨_, rfl⟩
          rw [← h_v3]
          obtain ⟨La14, hLa14⟩ : ∃ L : Array Slot, L = #[.val (.long l0), .second, .val (.long l1), .second, .val (.long l2), .second, .val (.long u0), .second, .val (.long u1), .second, .val (.int sel), .val (.int mm), .val (.int (0 : Int32)), .val (.int (0 : Int32)), .val (.int (0 : Int32)), .val (.int (0 : Int32)), .val (.long u0), .second, .val (.long u1), .second, .val (.long v2), .second, .val (.long v3), .second, .unset, .unset, .unset, .unset, .unset, .unset, .unset, .unset, .unset, .unset, .unset, .unset, .unset, .unset, .unset, .unset] := ⟨_, rfl⟩
          refine own_up (S' := T0.setTop (mkF m 86 La14 [])) (fun t stp => XT.lstore X0.here hx rfl (hb hby at_84) rfl (l' := La14) (by rw [hLa13, hLa14]; rfl) stp) ?_
          refine own_up (S' := T0.setTop (mkF m 88 La14 [(.int (0 : Int32))])) (fun t stp => XS.iload X0.here hx rfl (hb hby at_86) (by rw [hLa14]; rfl) stp) ?_
          have hc88_15 : (0 : Int32) = 0 := by decide
          refine own_up (S' := T0.setTop (mkF m 95 La14 [])) (fun t stp => XS.ifYes X0.here hx rfl (pc0 := 88) (pc' := 95) rfl (hb hby at_88) rfl (XT.i0_eq_t hc88_15) (by decide) (by decide) stp) ?_
          refine own_up (S' := T0.setTop (mkF m 96 La14 [(.int (0 : Int32))])) (fun t stp => XT.iconstV X0.here hx rfl (0 : Int32) (hb hby at_95) rfl stp) ?_
          refine own_up (S' := T0.setTop (mkF m 98 La14 [(.int (0 : Int32)), (.int (0 : Int32))])) (fun t stp => XS.iload X0.here hx rfl (hb hby at_96) (by rw [hLa14]; rfl) stp) ?_
          have hc98_16 : (0 : Int32) = 0 := hc88_15
          refine own_up (S' := T0.setTop (mkF m 105 La14 [(.int (0 : Int32))])) (fun t stp => XS.ifYes X0.here hx rfl (pc0 := 98) (pc' := 105) rfl (hb hby at_98) rfl (XT.i0_eq_t hc98_16) (by decide) (by decide) stp) ?_
          refine own_up (S' := T0.setTop (mkF m 106 La14 [(.int (0 : Int32)), (.int (0 : Int32))])) (fun t stp => XT.iconstV X0.here hx rfl (0 : Int32) (hb hby at_105) rfl stp) ?_
          refine own_up (S' := T0.setTop (mkF m 107 La14 [(.int ((0 : Int32) + (0 : Int32)))])) (fun t stp => XS.iadd X0.here hx rfl (hb hby at_106) rfl stp) ?_
          refine own_up (S' := T0.setTop (mkF m 109 La14 [(.int (0 : Int32)), (.int ((0 : Int32) + (0 : Int32)))])) (fun t stp => XS.iload X0.here hx rfl (hb hby at_107) (by rw [hLa14]; rfl) stp) ?_
          have hc109_17 : (0 : Int32) = 0 := hc88_15
          refine own_up (S' := T0.setTop (mkF m 116 La14 [(.int ((0 : Int32) + (0 : Int32)))])) (fun t stp => XS.ifYes X0.here hx rfl (pc0 := 109) (pc' := 116) rfl (hb hby at_109) rfl (XT.i0_eq_t hc109_17) (by decide) (by decide) stp) ?_
          refine own_up (S' := T0.setTop (mkF m 117 La14 [(.int (0 : Int32)), (.int ((0 : Int32) + (0 : Int32)))])) (fun t stp => XT.iconstV X0.here hx rfl (0 : Int32) (hb hby at_116) rfl stp) ?_
          refine own_up (S' := T0.setTop (mkF m 118 La14 [(.int (((0 : Int32) + (0 : Int32)) + (0 : Int32)))])) (fun t stp => XS.iadd X0.here hx rfl (hb hby at_117) rfl stp) ?_
          refine own_up (S' := T0.setTop (mkF m 120 La14 [(.int (0 : Int32)), (.int (((0 : Int32) + (0 : Int32)) + (0 : Int32)))])) (fun t stp => XS.iload X0.here hx rfl (hb hby at_118) (by rw [hLa14]; rfl) stp) ?_
          have hc120_18 : (0 : Int32) = 0 := hc88_15
          refine own_up (S' := T0.setTop (mkF m 127 La14 [(.int (((0 : Int32) + (0 : Int32)) + (0 : Int32)))])) (fun t stp => XS.ifYes X0.here hx rfl (pc0 := 120) (pc' := 127) rfl (hb hby at_120) rfl (XT.i0_eq_t hc120_18) (by decide) (by decide) stp) ?_
          refine own_up (S' := T0.setTop (mkF m 128 La14 [(.int (0 : Int32)), (.int (((0 : Int32) + (0 : Int32)) + (0 : Int32)))])) (fun t stp => XT.iconstV X0.here hx rfl (0 : Int32) (hb hby at_127) rfl stp) ?_
          refine own_up (S' := T0.setTop (mkF m 129 La14 [(.int ((((0 : Int32) + (0 : Int32)) + (0 : Int32)) + (0 : Int32)))])) (fun t stp => XS.iadd X0.here hx rfl (hb hby at_128) rfl stp) ?_
          show own_Ends p e below s (own_Q0 Z l0 l1 l2 u0 u1 sel h0 n0) room_1.cells room_1.slots (T0.setTop (mkF m 129 La14 [(.int (0 : Int32))]))
          obtain ⟨La19, hLa19⟩ : ∃ L : Array Slot, L = #[.val (.long l0), .second, .val (.long l1), .second, .val (.long l2), .second, .val (.long u0), .second, .val (.long u1), .second, .val (.int sel), .val (.int mm), .val (.int (0 : Int32)), .val (.int (0 : Int32)), .val (.int (0 : Int32)), .val (.int (0 : Int32)), .val (.long u0), .second, .val (.long u1), .second, .val (.long v2), .second, .val (.long v3), .second, .val (.int (0 : Int32)), .unset, .unset, .unset, .unset, .unset, .unset, .unset, .unset, .unset, .unset, .unset, .unset, .unset, .unset, .unset] := ⟨_, rfl⟩
          refine own_up (S' := T0.setTop (mkF m 131 La19 [])) (fun t stp => XS.istore X0.here hx rfl (hb hby at_129) rfl (l' := La19) (by rw [hLa14, hLa19]; rfl) stp) ?_
          refine own_up (S' := T0.setTop (mkF m 133 La19 [(.int (0 : Int32))])) (fun t stp => XS.iload X0.here hx rfl (hb hby at_131) (by rw [hLa19]; rfl) stp) ?_
          refine own_newa X0 hx hZ (ty := .int) rfl (hw _ (List.mem_of_getElem? (i := 0) rfl)) e0 0 (hb hby at_133) (rfl) 0 (by decide) (by decide) (by decide) (by decide) rfl rfl ?_
          intro T20 h20 ad20 hb20 X20 e20 E20 A20
          have g_ad20 : n0 ≤ ad20 := Nat.le_trans Z0 (Nat.le_of_eq hb20.symm)
          have Zn21 := Nat.le_trans Z0 E20.1
          have Al20 : own_Al Z h20 ad20 .int [] := A20
          show own_Ends p e below s (own_Q0 Z l0 l1 l2 u0 u1 sel h0 n0) room_1.cells room_1.slots (T20.setTop (mkF m 135 La19 [(.ref ad20)]))
          obtain ⟨La23, hLa23⟩ : ∃ L : Array Slot, L = #[.val (.long l0), .second, .val (.long l1), .second, .val (.long l2), .second, .val (.long u0), .second, .val (.long u1), .second, .val (.int sel), .val (.int mm), .val (.int (0 : Int32)), .val (.int (0 : Int32)), .val (.int (0 : Int32)), .val (.int (0 : Int32)), .val (.long u0), .second, .val (.long u1), .second, .val (.long v2), .second, .val (.long v3), .second, .val (.int (0 : Int32)), .val (.ref ad20), .unset, .unset, .unset, .unset, .unset, .unset, .unset, .unset, .unset, .unset, .unset, .unset, .unset, .unset] := ⟨_, rfl⟩
          refine own_up (S' := T20.setTop (mkF m 137 La23 [])) (fun t stp => XS.astore X20.here hx rfl (hb hby at_135) rfl rfl (l' := La23) (by rw [hLa19, hLa23]; rfl) stp) ?_
          refine own_up (S' := T20.setTop (mkF m 139 La23 [(.int (0 : Int32))])) (fun t stp => XS.iload X20.here hx rfl (hb hby at_137) (by rw [hLa23]; rfl) stp) ?_
          refine own_newa X20 hx hZ (ty := .long) rfl (hw _ (List.mem_of_getElem? (i := 1) rfl)) e20 0 (hb hby at_139) (rfl) 0 (by decide) (by decide) (by decide) (by decide) rfl rfl ?_
          intro T24 h24 ad24 hb24 X24 e24 E24 A24
          have ne24_ad20_ad24 : ad20 ≠ ad24 := Nat.ne_of_lt (Nat.lt_of_lt_of_eq (own_Al_lt Al20) hb24.symm)
          have g_ad24 : n0 ≤ ad24 := Nat.le_trans Zn21 (Nat.le_of_eq hb24.symm)
          have Zn25 := Nat.le_trans Zn21 E24.1
          have Al20_26 := own_Al_ext E24 Al20
          have Al24 : own_Al Z h24 ad24 .long [] := A24
          show own_Ends p e below s (own_Q0 Z l0 l1 l2 u0 u1 sel h0 n0) room_1.cells room_1.slots (T24.setTop (mkF m 141 La23 [(.ref ad24)]))
          obtain ⟨La27, hLa27⟩ : ∃ L : Array Slot, L = #[.val (.long l0), .second, .val (.long l1), .second, .val (.long l2), .second, .val (.long u0), .second, .val (.long u1), .second, .val (.int sel), .val (.int mm), .val (.int (0 : Int32)), .val (.int (0 : Int32)), .val (.int (0 : Int32)), .val (.int (0 : Int32)), .val (.long u0), .second, .val (.long u1), .second, .val (.long v2), .second, .val (.long v3), .second, .val (.int (0 : Int32)), .val (.ref ad20), .val (.ref ad24), .unset, .unset, .unset, .unset, .unset, .unset, .unset, .unset, .unset, .unset, .unset, .unset, .unset] := ⟨_, rfl⟩
          refine own_up (S' := T24.setTop (mkF m 143 La27 [])) (fun t stp => XS.astore X24.here hx rfl (hb hby at_141) rfl rfl (l' := La27) (by rw [hLa23, hLa27]; rfl) stp) ?_
          refine own_up (S' := T24.setTop (mkF m 144 La27 [(.int (0 : Int32))])) (fun t stp => XT.iconstV X24.here hx rfl (0 : Int32) (hb hby at_143) rfl stp) ?_
          obtain ⟨La28, hLa28⟩ : ∃ L : Array Slot, L = #[.val (.long l0), .second, .val (.long l1), .second, .val (.long l2), .second, .val (.long u0), .second, .val (.long u1), .second, .val (.int sel), .val (.int mm), .val (.int (0 : Int32)), .val (.int (0 : Int32)), .val (.int (0 : Int32)), .val (.int (0 : Int32)), .val (.long u0), .second, .val (.long u1), .second, .val (.long v2), .second, .val (.long v3), .second, .val (.int (0 : Int32)), .val (.ref ad20), .val (.ref ad24), .val (.int (0 : Int32)), .unset, .unset, .unset, .unset, .unset, .unset, .unset, .unset, .unset, .unset, .unset, .unset] := ⟨_, rfl⟩
          refine own_up (S' := T24.setTop (mkF m 146 La28 [])) (fun t stp => XS.istore X24.here hx rfl (hb hby at_144) rfl (l' := La28) (by rw [hLa27, hLa28]; rfl) stp) ?_
          refine own_up (S' := T24.setTop (mkF m 148 La28 [(.int (0 : Int32))])) (fun t stp => XS.iload X24.here hx rfl (hb hby at_146) (by rw [hLa28]; rfl) stp) ?_
          have hc148_29 : (0 : Int32) = 0 := hc88_15
          refine own_up (S' := T24.setTop (mkF m 167 La28 [])) (fun t stp => XS.ifYes X24.here hx rfl (pc0 := 148) (pc' := 167) rfl (hb hby at_148) rfl (XT.i0_eq_t hc148_29) (by decide) (by decide) stp) ?_
          refine own_up (S' := T24.setTop (mkF m 169 La28 [(.int (0 : Int32))])) (fun t stp => XS.iload X24.here hx rfl (hb hby at_167) (by rw [hLa28]; rfl) stp) ?_
          have hc169_30 : (0 : Int32) = 0 := hc88_15
          refine own_up (S' := T24.setTop (mkF m 188 La28 [])) (fun t stp => XS.ifYes X24.here hx rfl (pc0 := 169) (pc' := 188) rfl (hb hby at_169) rfl (XT.i0_eq_t hc169_30) (by decide) (by decide) stp) ?_
          refine own_up (S' := T24.setTop (mkF m 190 La28 [(.int (0 : Int32))])) (fun t stp => XS.iload X24.here hx rfl (hb hby at_188) (by rw [hLa28]; rfl) stp) ?_
          have hc190_31 : (0 : Int32) = 0 := hc88_15
          refine own_up (S' := T24.setTop (mkF m 209 La28 [])) (fun t stp => XS.ifYes X24.here hx rfl (pc0 := 190) (pc' := 209) rfl (hb hby at_190) rfl (XT.i0_eq_t hc190_31) (by decide) (by decide) stp) ?_
          refine own_up (S' := T24.setTop (mkF m 211 La28 [(.int (0 : Int32))])) (fun t stp => XS.iload X24.here hx rfl (hb hby at_209) (by rw [hLa28]; rfl) stp) ?_
          have hc211_32 : (0 : Int32) = 0 := hc88_15
          refine own_up (S' := T24.setTop (mkF m 230 La28 [])) (fun t stp => XS.ifYes X24.here hx rfl (pc0 := 211) (pc' := 230) rfl (hb hby at_211) rfl (XT.i0_eq_t hc211_32) (by decide) (by decide) stp) ?_
          refine own_up (S' := T24.setTop (mkF m 231 La28 [(.long l0)])) (fun t stp => XT.lloadN X24.here hx rfl (hb hby at_230) (by rw [hLa28]; rfl) stp) ?_
          refine own_up (S' := T24.setTop (mkF m 232 La28 [(.long l1), (.long l0)])) (fun t stp => XT.lloadN X24.here hx rfl (hb hby at_231) (by rw [hLa28]; rfl) stp) ?_
          refine own_up (S' := T24.setTop (mkF m 233 La28 [(.long (l0 ^^^ l1))])) (fun t stp => XT.lxor X24.here hx rfl (hb hby at_232) rfl stp) ?_
          obtain ⟨l3, h_l3⟩ : ∃ z : Int64, z = (l0 ^^^ l1) := ⟨_, rfl⟩
          rw [← h_l3]
          obtain ⟨La33, hLa33⟩ : ∃ L : Array Slot, L = #[.val (.long l0), .second, .val (.long l1), .second, .val (.long l2), .second, .val (.long u0), .second, .val (.long u1), .second, .val (.int sel), .val (.int mm), .val (.int (0 : Int32)), .val (.int (0 : Int32)), .val (.int (0 : Int32)), .val (.int (0 : Int32)), .val (.long u0), .second, .val (.long u1), .second, .val (.long v2), .second, .val (.long v3), .second, .val (.int (0 : Int32)), .val (.ref ad20), .val (.ref ad24), .val (.int (0 : Int32)), .val (.long l3), .second, .unset, .unset, .unset, .unset, .unset, .unset, .unset, .unset, .unset, .unset] := ⟨_, rfl⟩
          refine own_up (S' := T24.setTop (mkF m 235 La33 [])) (fun t stp => XT.lstore X24.here hx rfl (hb hby at_233) rfl (l' := La33) (by rw [hLa28, hLa33]; rfl) stp) ?_
          refine own_up (S' := T24.setTop (mkF m 236 La33 [(.int (4 : Int32))])) (fun t stp => XT.iconstV X24.here hx rfl (4 : Int32) (hb hby at_235) rfl stp) ?_
          refine own_newa X24 hx hZ (ty := .long) rfl (hw _ (List.mem_of_getElem? (i := 1) rfl)) e24 4 (hb hby at_236) (rfl) 4 (by decide) (by decide) (by decide) (by decide) rfl rfl ?_
          intro T34 h34 ad34 hb34 X34 e34 E34 A34
          have ne34_ad20_ad34 : ad20 ≠ ad34 := Nat.ne_of_lt (Nat.lt_of_lt_of_eq (own_Al_lt Al20_26) hb34.symm)
          have ne34_ad24_ad34 : ad24 ≠ ad34 := Nat.ne_of_lt (Nat.lt_of_lt_of_eq (own_Al_lt Al24) hb34.symm)
          have g_ad34 : n0 ≤ ad34 := Nat.le_trans Zn25 (Nat.le_of_eq hb34.symm)
          have Zn35 := Nat.le_trans Zn25 E34.1
          have Al20_36 := own_Al_ext E34 Al20_26
          have Al24_36 := own_Al_ext E34 Al24
          have Al34 : own_Al Z h34 ad34 .long [(.long (0 : Int64)), (.long (0 : Int64)), (.long (0 : Int64)), (.long (0 : Int64))] := A34
          show own_Ends p e below s (own_Q0 Z l0 l1 l2 u0 u1 sel h0 n0) room_1.cells room_1.slots (T34.setTop (mkF m 238 La33 [(.ref ad34)]))
          refine own_up (S' := T34.setTop (mkF m 239 La33 [(.ref ad34), (.ref ad34)])) (fun t stp => XS.dup X34.here hx rfl (hb hby at_238) rfl rfl stp) ?_
          refine own_up (S' := T34.setTop (mkF m 240 La33 [(.int (0 : Int32)), (.ref ad34), (.ref ad34)])) (fun t stp => XT.iconstV X34.here hx rfl (0 : Int32) (hb hby at_239) rfl stp) ?_
          refine own_up (S' := T34.setTop (mkF m 241 La33 [(.long l0), (.int (0 : Int32)), (.ref ad34), (.ref ad34)])) (fun t stp => XT.lloadN X34.here hx rfl (hb hby at_240) (by rw [hLa33]; rfl) stp) ?_
          refine own_stj X34 hx hZ e34 Al34 0 (hb hby at_241) (rfl) (Nat.le_of_ble_eq_true rfl) rfl rfl (g' := (mkF m 242 La33 [(.ref ad34)])) rfl ?_
          intro T37 h37 X37 e37 W37 B37
          have Zn38 := Nat.le_trans Zn35 (Nat.le_of_eq W37.size.symm)
          have Al20_39 := own_Al_oth W37 Al20_36 ne34_ad20_ad34
          have Al24_39 := own_Al_oth W37 Al24_36 ne34_ad24_ad34
          have N37 := Fr.snoc X37 N0 g_ad34
          have Al37 : own_Al Z h37 ad34 .long [(.long l0), (.long (0 : Int64)), (.long (0 : Int64)), (.long (0 : Int64))] := B37
          refine own_up (S' := T37.setTop (mkF m 243 La33 [(.ref ad34), (.ref ad34)])) (fun t stp => XS.dup X37.here hx rfl (hb hby at_242) rfl rfl stp) ?_
          refine own_up (S' := T37.setTop (mkF m 244 La33 [(.int (1 : Int32)), (.ref ad34), (.ref ad34)])) (fun t stp => XT.iconstV X37.here hx rfl (1 : Int32) (hb hby at_243) rfl stp) ?_
          refine own_up (S' := T37.setTop (mkF m 245 La33 [(.long l1), (.int (1 : Int32)), (.ref ad34), (.ref ad34)])) (fun t stp => XT.lloadN X37.here hx rfl (hb hby at_244) (by rw [hLa33]; rfl) stp) ?_
          refine own_stj X37 hx hZ e37 Al37 1 (hb hby at_245) (rfl) (Nat.le_of_ble_eq_true rfl) rfl rfl (g' := (mkF m 246 La33 [(.ref ad34)])) rfl ?_
          intro T40 h40 X40 e40 W40 B40
          have Zn41 := Nat.le_trans Zn38 (Nat.le_of_eq W40.size.symm)
          have Al20_42 := own_Al_oth W40 Al20_39 ne34_ad20_ad34
          have Al24_42 := own_Al_oth W40 Al24_39 ne34_ad24_ad34
          have N40 := Fr.snoc X40 N37 g_ad34
          have Al40 : own_Al Z h40 ad34 .long [(.long l0), (.long l1), (.long (0 : Int64)), (.long (0 : Int64))] := B40
          refine own_up (S' := T40.setTop (mkF m 247 La33 [(.ref ad34), (.ref ad34)])) (fun t stp => XS.dup X40.here hx rfl (hb hby at_246) rfl rfl stp) ?_
          refine own_up (S' := T40.setTop (mkF m 248 La33 [(.int (2 : Int32)), (.ref ad34), (.ref ad34)])) (fun t stp => XT.iconstV X40.here hx rfl (2 : Int32) (hb hby at_247) rfl stp) ?_
          refine own_up (S' := T40.setTop (mkF m 250 La33 [(.long l2), (.int (2 : Int32)), (.ref ad34), (.ref ad34)])) (fun t stp => XT.lload X40.here hx rfl (hb hby at_248) (by rw [hLa33]; rfl) stp) ?_
          refine own_stj X40 hx hZ e40 Al40 2 (hb hby at_250) (rfl) (Nat.le_of_ble_eq_true rfl) rfl rfl (g' := (mkF m 251 La33 [(.ref ad34)])) rfl ?_
          intro T43 h43 X43 e43 W43 B43
          have Zn44 := Nat.le_trans Zn41 (Nat.le_of_eq W43.size.symm)
          have Al20_45 := own_Al_oth W43 Al20_42 ne34_ad20_ad34
          have Al24_45 := own_Al_oth W43 Al24_42 ne34_ad24_ad34
          have N43 := Fr.snoc X43 N40 g_ad34
          have Al43 : own_Al Z h43 ad34 .long [(.long l0), (.long l1), (.long l2), (.long (0 : Int64))] := B43
          refine own_up (S' := T43.setTop (mkF m 252 La33 [(.ref ad34), (.ref ad34)])) (fun t stp => XS.dup X43.here hx rfl (hb hby at_251) rfl rfl stp) ?_
          refine own_up (S' := T43.setTop (mkF m 253 La33 [(.int (3 : Int32)), (.ref ad34), (.ref ad34)])) (fun t stp => XT.iconstV X43.here hx rfl (3 : Int32) (hb hby at_252) rfl stp) ?_
          refine own_up (S' := T43.setTop (mkF m 255 La33 [(.long l3), (.int (3 : Int32)), (.ref ad34), (.ref ad34)])) (fun t stp => XT.lload X43.here hx rfl (hb hby at_253) (by rw [hLa33]; rfl) stp) ?_
          refine own_stj X43 hx hZ e43 Al43 3 (hb hby at_255) (rfl) (Nat.le_of_ble_eq_true rfl) rfl rfl (g' := (mkF m 256 La33 [(.ref ad34)])) rfl ?_
          intro T46 h46 X46 e46 W46 B46
          have Zn47 := Nat.le_trans Zn44 (Nat.le_of_eq W46.size.symm)
          have Al20_48 := own_Al_oth W46 Al20_45 ne34_ad20_ad34
          have Al24_48 := own_Al_oth W46 Al24_45 ne34_ad24_ad34
          have N46 := Fr.snoc X46 N43 g_ad34
          have Al46 : own_Al Z h46 ad34 .long [(.long l0), (.long l1), (.long l2), (.long l3)] := B46
          obtain ⟨La49, hLa49⟩ : ∃ L : Array Slot, L = #[.val (.long l0), .second, .val (.long l1), .second, .val (.long l2), .second, .val (.long u0), .second, .val (.long u1), .second, .val (.int sel), .val (.int mm), .val (.int (0 : Int32)), .val (.int (0 : Int32)), .val (.int (0 : Int32)), .val (.int (0 : Int32)), .val (.long u0), .second, .val (.long u1), .second, .val (.long v2), .second, .val (.long v3), .second, .val (.int (0 : Int32)), .val (.ref ad20), .val (.ref ad24), .val (.int (0 : Int32)), .val (.long l3), .second, .val (.ref ad34), .unset, .unset, .unset, .unset, .unset, .unset, .unset, .unset, .unset] := ⟨_, rfl⟩
          refine own_up (S' := T46.setTop (mkF m 258 La49 [])) (fun t stp => XS.astore X46.here hx rfl (hb hby at_256) rfl rfl (l' := La49) (by rw [hLa33, hLa49]; rfl) stp) ?_
          refine own_new X46 hx hZ hown (hw _ (List.mem_of_getElem? (i := 2) rfl)) (hw _ (List.mem_of_getElem? (i := 3) rfl)) (hw _ (List.mem_of_getElem? (i := 4) rfl)) e46 rfl (hb hby at_258) (by decide) (by decide) ?_
          intro T50 h50 ob hb50 X50 e50 E50 A50 D50
          have ne50_ad20_ob : ad20 ≠ ob := Nat.ne_of_lt (Nat.lt_of_lt_of_eq (own_Al_lt Al20_48) hb50.symm)
          have ne50_ad24_ob : ad24 ≠ ob := Nat.ne_of_lt (Nat.lt_of_lt_of_eq (own_Al_lt Al24_48) hb50.symm)
          have ne50_ad34_ob : ad34 ≠ ob := Nat.ne_of_lt (Nat.lt_of_lt_of_eq (own_Al_lt Al46) hb50.symm)
          have g_ob : n0 ≤ ob := Nat.le_trans Zn47 (Nat.le_of_eq hb50.symm)
          have Zn51 := Nat.le_trans Zn47 E50.1
          have Al20_52 := own_Al_ext E50 Al20_48
          have Al24_52 := own_Al_ext E50 Al24_48
          have Al46_52 := own_Al_ext E50 Al46
          have Fresources_ob : Fld Z h50 ob "com/example/outcry/outcry/combinatorial/Bundle" "resources" "[I" .null := D50 (Or.inr (hw _ (List.mem_of_getElem? (i := 17) rfl))) (ty := (.array .int)) (by decide)
          have Funits_ob : Fld Z h50 ob "com/example/outcry/outcry/combinatorial/Bundle" "units" "[J" .null := D50 (Or.inr (hw _ (List.mem_of_getElem? (i := 19) rfl))) (ty := (.array .long)) (by decide)
          show own_Ends p e below s (own_Q0 Z l0 l1 l2 u0 u1 sel h0 n0) room_1.cells room_1.slots (T50.setTop (mkF m 261 La49 [(.ref ob)]))
          refine own_up (S' := T50.setTop (mkF m 262 La49 [(.ref ob), (.ref ob)])) (fun t stp => XS.dup X50.here hx rfl (hb hby at_261) rfl rfl stp) ?_
          refine own_up (S' := T50.setTop (mkF m 264 La49 [(.ref ad20), (.ref ob), (.ref ob)])) (fun t stp => XS.aload X50.here hx rfl (hb hby at_262) (by rw [hLa49]; rfl) rfl stp) ?_
          refine own_up (S' := T50.setTop (mkF m 266 La49 [(.ref ad24), (.ref ad20), (.ref ob), (.ref ob)])) (fun t stp => XS.aload X50.here hx rfl (hb hby at_264) (by rw [hLa49]; rfl) rfl stp) ?_
          refine own_callI X50 hx hZ rfl hown (hw _ (List.mem_of_getElem? (i := 5) rfl)) (hw _ (List.mem_of_getElem? (i := 6) rfl)) (hw _ (List.mem_of_getElem? (i := 4) rfl)) (hw _ (List.mem_of_getElem? (i := 7) rfl)) (by decide) e50 (rm2 l Z a0 hw [] ob ad20 ad24 h50 n0 Zn51 Fresources_ob Funits_ob A50 g_ob) 1 ob [(.ref ad20), (.ref ad24)] [(.ref ob)] (hb hby at_266) (lenOf own_pd1 rfl) (by decide) (by decide) (by decide) (by decide) rfl (by rw [hml, hLa49]; rfl) rfl (by show 2 * 0 + _ ≤ _; exact Nat.le_of_eq rfl) rfl ?_
          intro T53 L53 r53 X53 q53
          obtain ⟨rfl, M53, K53, G53a_53, G53b_53⟩ := q53
          have N53 := Fr.app N46 M53
          have Zn54 := Nat.le_trans Zn51 K53.1
          have Al20_55 := own_Al_keep K53 Al20_52 (ninS ne50_ad20_ob nin0)
          have Al24_55 := own_Al_keep K53 Al24_52 (ninS ne50_ad24_ob nin0)
          have Al46_55 := own_Al_keep K53 Al46_52 (ninS ne50_ad34_ob nin0)
          have A50_55 := A50.keep K53
          show own_Ends p e below s (own_Q0 Z l0 l1 l2 u0 u1 sel h0 n0) room_1.cells room_1.slots (T53.setTop (mkF m 269 La49 [(.ref ob)]))
          obtain ⟨La56, hLa56⟩ : ∃ L : Array Slot, L = #[.val (.long l0), .second, .val (.long l1), .second, .val (.long l2), .second, .val (.long u0), .second, .val (.long u1), .second, .val (.int sel), .val (.int mm), .val (.int (0 : Int32)), .val (.int (0 : Int32)), .val (.int (0 : Int32)), .val (.int (0 : Int32)), .val (.long u0), .second, .val (.long u1), .second, .val (.long v2), .second, .val (.long v3), .second, .val (.int (0 : Int32)), .val (.ref ad20), .val (.ref ad24), .val (.int (0 : Int32)), .val (.long l3), .second, .val (.ref ad34), .val (.ref ob), .unset, .unset, .unset, .unset, .unset, .unset, .unset, .unset] := ⟨_, rfl⟩
          refine own_up (S' := T53.setTop (mkF m 271 La56 [])) (fun t stp => XS.astore X53.here hx rfl (hb hby at_269) rfl rfl (l' := La56) (by rw [hLa49, hLa56]; rfl) stp) ?_
          refine own_up (S' := T53.setTop (mkF m 273 La56 [(.ref ob)])) (fun t stp => XS.aload X53.here hx rfl (hb hby at_271) (by rw [hLa56]; rfl) rfl stp) ?_
          refine own_up (S' := T53.setTop (mkF m 275 La56 [(.ref ad34), (.ref ob)])) (fun t stp => XS.aload X53.here hx rfl (hb hby at_273) (by rw [hLa56]; rfl) rfl stp) ?_
          refine own_callV X53 hx hZ hown (hw _ (List.mem_of_getElem? (i := 20) rfl)) (hw _ (List.mem_of_getElem? (i := 21) rfl)) (hw _ (List.mem_of_getElem? (i := 23) rfl)) (hw _ (List.mem_of_getElem? (i := 22) rfl)) (hw _ (List.mem_of_getElem? (i := 4) rfl)) (hw _ (List.mem_of_getElem? (i := 24) rfl)) (by decide) rfl (rm10 l Z a0 hw [] ob ad34 ad20 ad24 [(.long l0), (.long l1), (.long l2), (.long l3)] T53.heap n0 Zn54 G53a_53 G53b_53 Al20_55 Al24_55 Al46_55 g_ad34 ne34_ad20_ad34 ne34_ad24_ad34 (Ne.symm ne50_ad34_ob)) 0 A50_55 [(.ref ad34)] [] (hb hby at_275) (lenOf own_pd2 rfl) (by decide) (by decide) (by decide) (by decide) rfl (by rw [hml, hLa56]; rfl) rfl (by show 2 * 0 + _ ≤ _; exact Nat.le_of_eq rfl) rfl ?_
          intro T57 L57 r57 X57 q57
          obtain ⟨rfl, M57, K57, G57a_57⟩ := q57
          have N57 := Fr.app N53 M57
          have Zn58 := Nat.le_trans Zn54 K57.1
          have Al20_59 := own_Al_keep K57 Al20_55 (ninS ne34_ad20_ad34 nin0)
          have Al24_59 := own_Al_keep K57 Al24_55 (ninS ne34_ad24_ad34 nin0)
          have A50_59 := A50_55.keep K57
          have G53a_59 := G53a_53.keep K57 (ninS (Ne.symm ne50_ad34_ob) nin0)
          have G53b_59 := G53b_53.keep K57 (ninS (Ne.symm ne50_ad34_ob) nin0)
          show own_Ends p e below s (own_Q0 Z l0 l1 l2 u0 u1 sel h0 n0) room_1.cells room_1.slots (T57.setTop (mkF m 278 La56 []))
          have Tk57 : own_Al Z T57.heap ad34 .long [(.long l0), (.long l1), (.long l2), (.long l3)] := G57a_57
          refine own_up (S' := T57.setTop (mkF m 280 La56 [(.int (0 : Int32))])) (fun t stp => XS.iload X57.here hx rfl (hb hby at_278) (by rw [hLa56]; rfl) stp) ?_
          have hc280_60 : (0 : Int32) = 0 := hc88_15
          refine own_up (S' := T57.setTop (mkF m 290 La56 [])) (fun t stp => XS.ifYes X57.here hx rfl (pc0 := 280) (pc' := 290) rfl (hb hby at_280) rfl (XT.i0_eq_t hc280_60) (by decide) (by decide) stp) ?_
          refine own_up (S' := T57.setTop (mkF m 291 La56 [(.long l0)])) (fun t stp => XT.lloadN X57.here hx rfl (hb hby at_290) (by rw [hLa56]; rfl) stp) ?_
          obtain ⟨La61, hLa61⟩ : ∃ L : Array Slot, L = #[.val (.long l0), .second, .val (.long l1), .second, .val (.long l2), .second, .val (.long u0), .second, .val (.long u1), .second, .val (.int sel), .val (.int mm), .val (.int (0 : Int32)), .val (.int (0 : Int32)), .val (.int (0 : Int32)), .val (.int (0 : Int32)), .val (.long u0), .second, .val (.long u1), .second, .val (.long v2), .second, .val (.long v3), .second, .val (.int (0 : Int32)), .val (.ref ad20), .val (.ref ad24), .val (.int (0 : Int32)), .val (.long l3), .second, .val (.ref ad34), .val (.ref ob), .val (.long l0), .second, .unset, .unset, .unset, .unset, .unset, .unset] := ⟨_, rfl⟩
          refine own_up (S' := T57.setTop (mkF m 293 La61 [])) (fun t stp => XT.lstore X57.here hx rfl (hb hby at_291) rfl (l' := La61) (by rw [hLa56, hLa61]; rfl) stp) ?_
          refine own_up (S' := T57.setTop (mkF m 295 La61 [(.int (0 : Int32))])) (fun t stp => XS.iload X57.here hx rfl (hb hby at_293) (by rw [hLa61]; rfl) stp) ?_
          have hc295_62 : (0 : Int32) = 0 := hc88_15
          refine own_up (S' := T57.setTop (mkF m 305 La61 [])) (fun t stp => XS.ifYes X57.here hx rfl (pc0 := 295) (pc' := 305) rfl (hb hby at_295) rfl (XT.i0_eq_t hc295_62) (by decide) (by decide) stp) ?_
          refine own_up (S' := T57.setTop (mkF m 306 La61 [(.long l1)])) (fun t stp => XT.lloadN X57.here hx rfl (hb hby at_305) (by rw [hLa61]; rfl) stp) ?_
          obtain ⟨La63, hLa63⟩ : ∃ L : Array Slot, L = #[.val (.long l0), .second, .val (.long l1), .second, .val (.long l2), .second, .val (.long u0), .second, .val (.long u1), .second, .val (.int sel), .val (.int mm), .val (.int (0 : Int32)), .val (.int (0 : Int32)), .val (.int (0 : Int32)), .val (.int (0 : Int32)), .val (.long u0), .second, .val (.long u1), .second, .val (.long v2), .second, .val (.long v3), .second, .val (.int (0 : Int32)), .val (.ref ad20), .val (.ref ad24), .val (.int (0 : Int32)), .val (.long l3), .second, .val (.ref ad34), .val (.ref ob), .val (.long l0), .second, .val (.long l1), .second, .unset, .unset, .unset, .unset] := ⟨_, rfl⟩
          refine own_up (S' := T57.setTop (mkF m 308 La63 [])) (fun t stp => XT.lstore X57.here hx rfl (hb hby at_306) rfl (l' := La63) (by rw [hLa61, hLa63]; rfl) stp) ?_
          refine own_up (S' := T57.setTop (mkF m 310 La63 [(.int (0 : Int32))])) (fun t stp => XS.iload X57.here hx rfl (hb hby at_308) (by rw [hLa63]; rfl) stp) ?_
          have hc310_64 : (0 : Int32) = 0 := hc88_15
          refine own_up (S' := T57.setTop (mkF m 321 La63 [])) (fun t stp => XS.ifYes X57.here hx rfl (pc0 := 310) (pc' := 321) rfl (hb hby at_310) rfl (XT.i0_eq_t hc310_64) (by decide) (by decide) stp) ?_
          refine own_up (S' := T57.setTop (mkF m 323 La63 [(.long l2)])) (fun t stp => XT.lload X57.here hx rfl (hb hby at_321) (by rw [hLa63]; rfl) stp) ?_
          obtain ⟨La65, hLa65⟩ : ∃ L : Array Slot, L = #[.val (.long l0), .second, .val (.long l1), .second, .val (.long l2), .second, .val (.long u0), .second, .val (.long u1), .second, .val (.int sel), .val (.int mm), .val (.int (0 : Int32)), .val (.int (0 : Int32)), .val (.int (0 : Int32)), .val (.int (0 : Int32)), .val (.long u0), .second, .val (.long u1), .second, .val (.long v2), .second, .val (.long v3), .second, .val (.int (0 : Int32)), .val (.ref ad20), .val (.ref ad24), .val (.int (0 : Int32)), .val (.long l3), .second, .val (.ref ad34), .val (.ref ob), .val (.long l0), .second, .val (.long l1), .second, .val (.long l2), .second, .unset, .unset] := ⟨_, rfl⟩
          refine own_up (S' := T57.setTop (mkF m 325 La65 [])) (fun t stp => XT.lstore X57.here hx rfl (hb hby at_323) rfl (l' := La65) (by rw [hLa63, hLa65]; rfl) stp) ?_
          refine own_up (S' := T57.setTop (mkF m 327 La65 [(.int (0 : Int32))])) (fun t stp => XS.iload X57.here hx rfl (hb hby at_325) (by rw [hLa65]; rfl) stp) ?_
          have hc327_66 : (0 : Int32) = 0 := hc88_15
          refine own_up (S' := T57.setTop (mkF m 338 La65 [])) (fun t stp => XS.ifYes X57.here hx rfl (pc0 := 327) (pc' := 338) rfl (hb hby at_327) rfl (XT.i0_eq_t hc327_66) (by decide) (by decide) stp) ?_
          refine own_up (S' := T57.setTop (mkF m 340 La65 [(.long l3)])) (fun t stp => XT.lload X57.here hx rfl (hb hby at_338) (by rw [hLa65]; rfl) stp) ?_
          obtain ⟨La67, hLa67⟩ : ∃ L : Array Slot, L = #[.val (.long l0), .second, .val (.long l1), .second, .val (.long l2), .second, .val (.long u0), .second, .val (.long u1), .second, .val (.int sel), .val (.int mm), .val (.int (0 : Int32)), .val (.int (0 : Int32)), .val (.int (0 : Int32)), .val (.int (0 : Int32)), .val (.long u0), .second, .val (.long u1), .second, .val (.long v2), .second, .val (.long v3), .second, .val (.int (0 : Int32)), .val (.ref ad20), .val (.ref ad24), .val (.int (0 : Int32)), .val (.long l3), .second, .val (.ref ad34), .val (.ref ob), .val (.long l0), .second, .val (.long l1), .second, .val (.long l2), .second, .val (.long l3), .second] := ⟨_, rfl⟩
          refine own_up (S' := T57.setTop (mkF m 342 La67 [])) (fun t stp => XT.lstore X57.here hx rfl (hb hby at_340) rfl (l' := La67) (by rw [hLa65, hLa67]; rfl) stp) ?_
          refine own_up (S' := T57.setTop (mkF m 344 La67 [(.ref ad34)])) (fun t stp => XS.aload X57.here hx rfl (hb hby at_342) (by rw [hLa67]; rfl) rfl stp) ?_
          refine own_len X57 hx hZ rfl Tk57 (4 : Int32) (hb hby at_344) (rfl) rfl rfl (g' := (mkF m 345 La67 [(.int (4 : Int32))])) rfl ?_
          refine own_up (S' := T57.setTop (mkF m 346 La67 [(.int (4 : Int32)), (.int (4 : Int32))])) (fun t stp => XT.iconstV X57.here hx rfl (4 : Int32) (hb hby at_345) rfl stp) ?_
          have hc346_68 : (4 : Int32) = (4 : Int32) := rfl
          refine own_up (S' := T57.setTop (mkF m 349 La67 [])) (fun t stp => XS.icmpNo X57.here hx rfl (hb hby at_346) rfl (XT.ii_ne_f hc346_68) stp) ?_
          refine own_up (S' := T57.setTop (mkF m 351 La67 [(.ref ad34)])) (fun t stp => XS.aload X57.here hx rfl (hb hby at_349) (by rw [hLa67]; rfl) rfl stp) ?_
          refine own_up (S' := T57.setTop (mkF m 352 La67 [(.int (0 : Int32)), (.ref ad34)])) (fun t stp => XT.iconstV X57.here hx rfl (0 : Int32) (hb hby at_351) rfl stp) ?_
          refine own_ldj X57 hx hZ rfl Tk57 (v := (.long l0)) 0 (hb hby at_352) (rfl) (rfl) rfl rfl (g' := (mkF m 353 La67 [(.long l0)])) rfl ?_
          refine own_up (S' := T57.setTop (mkF m 355 La67 [(.long l0), (.long l0)])) (fun t stp => XT.lload X57.here hx rfl (hb hby at_353) (by rw [hLa67]; rfl) stp) ?_
          refine own_up (S' := T57.setTop (mkF m 356 La67 [(.int (XT.cmpL l0 l0))])) (fun t stp => XT.lcmp X57.here hx rfl (hb hby at_355) rfl stp) ?_
          have hc356_69 : l0 = l0 := rfl
          have ihc356_69 : l0.toInt = l0.toInt := own_leq hc356_69
          refine own_up (S' := T57.setTop (mkF m 359 La67 [])) (fun t stp => XS.ifNo X57.here hx rfl (hb hby at_356) rfl (XT.ll_ne_f hc356_69) stp) ?_
          refine own_up (S' := T57.setTop (mkF m 361 La67 [(.ref ad34)])) (fun t stp => XS.aload X57.here hx rfl (hb hby at_359) (by rw [hLa67]; rfl) rfl stp) ?_
          refine own_up (S' := T57.setTop (mkF m 362 La67 [(.int (1 : Int32)), (.ref ad34)])) (fun t stp => XT.iconstV X57.here hx rfl (1 : Int32) (hb hby at_361) rfl stp) ?_
          refine own_ldj X57 hx hZ rfl Tk57 (v := (.long l1)) 1 (hb hby at_362) (rfl) (rfl) rfl rfl (g' := (mkF m 363 La67 [(.long l1)])) rfl ?_
          refine own_up (S' := T57.setTop (mkF m 365 La67 [(.long l1), (.long l1)])) (fun t stp => XT.lload X57.here hx rfl (hb hby at_363) (by rw [hLa67]; rfl) stp) ?_
          refine own_up (S' := T57.setTop (mkF m 366 La67 [(.int (XT.cmpL l1 l1))])) (fun t stp => XT.lcmp X57.here hx rfl (hb hby at_365) rfl stp) ?_
          have hc366_70 : l1 = l1 := rfl
          have ihc366_70 : l1.toInt = l1.toInt := own_leq hc366_70
          refine own_up (S' := T57.setTop (mkF m 369 La67 [])) (fun t stp => XS.ifNo X57.here hx rfl (hb hby at_366) rfl (XT.ll_ne_f hc366_70) stp) ?_
          refine own_up (S' := T57.setTop (mkF m 371 La67 [(.ref ad34)])) (fun t stp => XS.aload X57.here hx rfl (hb hby at_369) (by rw [hLa67]; rfl) rfl stp) ?_
          refine own_up (S' := T57.setTop (mkF m 372 La67 [(.int (2 : Int32)), (.ref ad34)])) (fun t stp => XT.iconstV X57.here hx rfl (2 : Int32) (hb hby at_371) rfl stp) ?_
          refine own_ldj X57 hx hZ rfl Tk57 (v := (.long l2)) 2 (hb hby at_372) (rfl) (rfl) rfl rfl (g' := (mkF m 373 La67 [(.long l2)])) rfl ?_
          refine own_up (S' := T57.setTop (mkF m 375 La67 [(.long l2), (.long l2)])) (fun t stp => XT.lload X57.here hx rfl (hb hby at_373) (by rw [hLa67]; rfl) stp) ?_
          refine own_up (S' := T57.setTop (mkF m 376 La67 [(.int (XT.cmpL l2 l2))])) (fun t stp => XT.lcmp X57.here hx rfl (hb hby at_375) rfl stp) ?_
          have hc376_71 : l2 = l2 := rfl
          have ihc376_71 : l2.toInt = l2.toInt := own_leq hc376_71
          refine own_up (S' := T57.setTop (mkF m 379 La67 [])) (fun t stp => XS.ifNo X57.here hx rfl (hb hby at_376) rfl (XT.ll_ne_f hc376_71) stp) ?_
          refine own_up (S' := T57.setTop (mkF m 381 La67 [(.ref ad34)])) (fun t stp => XS.aload X57.here hx rfl (hb hby at_379) (by rw [hLa67]; rfl) rfl stp) ?_
          refine own_up (S' := T57.setTop (mkF m 382 La67 [(.int (3 : Int32)), (.ref ad34)])) (fun t stp => XT.iconstV X57.here hx rfl (3 : Int32) (hb hby at_381) rfl stp) ?_
          refine own_ldj X57 hx hZ rfl Tk57 (v := (.long l3)) 3 (hb hby at_382) (rfl) (rfl) rfl rfl (g' := (mkF m 383 La67 [(.long l3)])) rfl ?_
          refine own_up (S' := T57.setTop (mkF m 385 La67 [(.long l3), (.long l3)])) (fun t stp => XT.lload X57.here hx rfl (hb hby at_383) (by rw [hLa67]; rfl) stp) ?_
          refine own_up (S' := T57.setTop (mkF m 386 La67 [(.int (XT.cmpL l3 l3))])) (fun t stp => XT.lcmp X57.here hx rfl (hb hby at_385) rfl stp) ?_
          have hc386_72 : l3 = l3 := rfl
          have ihc386_72 : l3.toInt = l3.toInt := own_leq hc386_72
          refine own_up (S' := T57.setTop (mkF m 389 La67 [])) (fun t stp => XS.ifNo X57.here hx rfl (hb hby at_386) rfl (XT.ll_ne_f hc386_72) stp) ?_
          refine own_up (S' := T57.setTop (mkF m 390 La67 [(.int (1 : Int32))])) (fun t stp => XT.iconstV X57.here hx rfl (1 : Int32) (hb hby at_389) rfl stp) ?_
          refine own_up (S' := T57.setTop (mkF m 394 La67 [(.int (1 : Int32))])) (fun t stp => XS.goto X57.here hx rfl (pc0 := 390) (pc' := 394) rfl (hb hby at_390) (by decide) (by decide) stp) ?_
          refine own_retN X57 hx hlk (t := .boolean) hret (by simp) (z' := (1 : Int32)) rfl (hb hby at_394) (by decide) (by decide) ?_
          show own_Q0 Z l0 l1 l2 u0 u1 sel h0 n0 _ T57.heap _
          exact ⟨rfl, N57⟩
        · have ihc54_9 : (mm &&& (8 : Int32)).toInt ≠ 0 := own_ine hc54_9
          refine own_up (S' := T0.setTop (mkF m 57 La8 [])) (fun t stp => XS.ifNo X0.here hx rfl (hb hby at_54) rfl (XT.i0_eq_f hc54_9) stp) ?_
          refine own_up (S' := T0.setTop (mkF m 58 La8 [(.int (1 : Int32))])) (fun t stp => XT.iconstV X0.here hx rfl (1 : Int32) (hb hby at_57) rfl stp) ?_
          refine own_up (S' := T0.setTop (mkF m 62 La8 [(.int (1 : Int32))])) (fun t stp => XS.goto X0.here hx rfl (pc0 := 58) (pc' := 62) rfl (hb hby at_58) (by decide) (by decide) stp) ?_
          obtain ⟨La73, hLa73⟩ : ∃ L : Array Slot, L = #[.val (.long l0), .second, .val (.long l1), .second, .val (.long l2), .second, .val (.long u0), .second, .val (.long u1), .second, .val (.int sel), .val (.int mm), .val (.int (0 : Int32)), .val (.int (0 : Int32)), .val (.int (0 : Int32)), .val (.int (1 : Int32)), .unset, .unset, .unset, .unset, .unset, .unset, .unset, .unset, .unset, .unset, .unset, .unset, .unset, .unset, .unset, .unset, .unset, .unset, .unset, .unset, .unset, .unset, .unset, .unset] := ⟨_, rfl⟩
          refine own_up (S' := T0.setTop (mkF m 64 La73 [])) (fun t stp => XS.istore X0.here hx rfl (hb hby at_62) rfl (l' := La73) (by rw [hLa8, hLa73]; rfl) stp) ?_
          refine own_up (S' := T0.setTop (mkF m 66 La73 [(.long u0)])) (fun t stp => XT.lload X0.here hx rfl (hb hby at_64) (by rw [hLa73]; rfl) stp) ?_
          obtain ⟨La74, hLa74⟩ : ∃ L : Array Slot, L = #[.val (.long l0), .second, .val (.long l1), .second, .val (.long l2), .second, .val (.long u0), .second, .val (.long u1), .second, .val (.int sel), .val (.int mm), .val (.int (0 : Int32)), .val (.int (0 : Int32)), .val (.int (0 : Int32)), .val (.int (1 : Int32)), .val (.long u0), .second, .unset, .unset, .unset, .unset, .unset, .unset, .unset, .unset, .unset, .unset, .unset, .unset, .unset, .unset, .unset, .unset, .unset, .unset, .unset, .unset, .unset, .unset] := ⟨_, rfl⟩
          refine own_up (S' := T0.setTop (mkF m 68 La74 [])) (fun t stp => XT.lstore X0.here hx rfl (hb hby at_66) rfl (l' := La74) (by rw [hLa73, hLa74]; rfl) stp) ?_
          refine own_up (S' := T0.setTop (mkF m 70 La74 [(.long u1)])) (fun t stp => XT.lload X0.here hx rfl (hb hby at_68) (by rw [hLa74]; rfl) stp) ?_
          obtain ⟨La75, hLa75⟩ : ∃ L : Array Slot, L = #[.val (.long l0), .second, .val (.long l1), .second, .val (.long l2), .second, .val (.long u0), .second, .val (.long u1), .second, .val (.int sel), .val (.int mm), .val (.int (0 : Int32)), .val (.int (0 : Int32)), .val (.int (0 : Int32)), .val (.int (1 : Int32)), .val (.long u0), .second, .val (.long u1), .second, .unset, .unset, .unset, .unset, .unset, .unset, .unset, .unset, .unset, .unset, .unset, .unset, .unset, .unset, .unset, .unset, .unset, .unset, .unset, .unset] := ⟨_, rfl⟩
          refine own_up (S' := T0.setTop (mkF m 72 La75 [])) (fun t stp => XT.lstore X0.here hx rfl (hb hby at_70) rfl (l' := La75) (by rw [hLa74, hLa75]; rfl) stp) ?_
          refine own_up (S' := T0.setTop (mkF m 74 La75 [(.long u0)])) (fun t stp => XT.lload X0.here hx rfl (hb hby at_72) (by rw [hLa75]; rfl) stp) ?_
          refine own_up (S' := T0.setTop (mkF m 76 La75 [(.long u1), (.long u0)])) (fun t stp => XT.lload X0.here hx rfl (hb hby at_74) (by rw [hLa75]; rfl) stp) ?_
          refine own_up (S' := T0.setTop (mkF m 77 La75 [(.long (u0 - u1))])) (fun t stp => XT.lsub X0.here hx rfl (hb hby at_76) rfl stp) ?_
          obtain ⟨v2, h_v2⟩ : ∃ z : Int64, z = (u0 - u1) := ⟨_, rfl⟩
          rw [← h_v2]
          obtain ⟨La76, hLa76⟩ : ∃ L : Array Slot, L = #[.val (.long l0), .second, .val (.long l1), .second, .val (.long l2), .second, .val (.long u0), .second, .val (.long u1), .second, .val (.int sel), .val (.int mm), .val (.int (0 : Int32)), .val (.int (0 : Int32)), .val (.int (0 : Int32)), .val (.int (1 : Int32)), .val (.long u0), .second, .val (.long u1), .second, .val (.long v2), .second, .unset, .unset, .unset, .unset, .unset, .unset, .unset, .unset, .unset, .unset, .unset, .unset, .unset, .unset, .unset, .unset, .unset, .unset] := ⟨_, rfl⟩
          refine own_up (S' := T0.setTop (mkF m 79 La76 [])) (fun t stp => XT.lstore X0.here hx rfl (hb hby at_77) rfl (l' := La76) (by rw [hLa75, hLa76]; rfl) stp) ?_
          refine own_up (S' := T0.setTop (mkF m 81 La76 [(.long u1)])) (fun t stp => XT.lload X0.here hx rfl (hb hby at_79) (by rw [hLa76]; rfl) stp) ?_
          refine own_up (S' := T0.setTop (mkF m 83 La76 [(.long l2), (.long u1)])) (fun t stp => XT.lload X0.here hx rfl (hb hby at_81) (by rw [hLa76]; rfl) stp) ?_
          refine own_up (S' := T0.setTop (mkF m 84 La76 [(.long (u1 ^^^ l2))])) (fun t stp => XT.lxor X0.here hx rfl (hb hby at_83) rfl stp) ?_
          obtain ⟨v3, h_v3⟩ : ∃ z : Int64, z = (u1 ^^^ l2) := ⟨_, rfl⟩
          rw [← h_v3]
          obtain ⟨La77, hLa77⟩ : ∃ L : Array Slot, L = #[.val (.long l0), .second, .val (.long l1), .second, .val (.long l2), .second, .val (.long u0), .second, .val (.long u1), .second, .val (.int sel), .val (.int mm), .val (.int (0 : Int32)), .val (.int (0 : Int32)), .val (.int (0 : Int32)), .val (.int (1 : Int32)), .val (.long u0), .second, .val (.long u1), .second, .val (.long v2), .second, .val (.long v3), .second, .unset, .unset, .unset, .unset, .unset, .unset, .unset, .unset, .unset, .unset, .unset, .unset, .unset, .unset, .unset, .unset] := ⟨_, rfl⟩
          refine own_up (S' := T0.setTop (mkF m 86 La77 [])) (fun t stp => XT.lstore X0.here hx rfl (hb hby at_84) rfl (l' := La77) (by rw [hLa76, hLa77]; rfl) stp) ?_
          refine own_up (S' := T0.setTop (mkF m 88 La77 [(.int (0 : Int32))])) (fun t stp => XS.iload X0.here hx rfl (hb hby at_86) (by rw [hLa77]; rfl) stp) ?_
          have hc88_78 : (0 : Int32) = 0 := by decide
          refine own_up (S' := T0.setTop (mkF m 95 La77 [])) (fun t stp => XS.ifYes X0.here hx rfl (pc0 := 88) (pc' := 95) rfl (hb hby at_88) rfl (XT.i0_eq_t hc88_78) (by decide) (by decide) stp) ?_
          refine own_up (S' := T0.setTop (mkF m 96 La77 [(.int (0 : Int32))])) (fun t stp => XT.iconstV X0.here hx rfl (0 : Int32) (hb hby at_95) rfl stp) ?_
          refine own_up (S' := T0.setTop (mkF m 98 La77 [(.int (0 : Int32)), (.int (0 : Int32))])) (fun t stp => XS.iload X0.here hx rfl (hb hby at_96) (by rw [hLa77]; rfl) stp) ?_
          have hc98_79 : (0 : Int32) = 0 := hc88_78
          refine own_up (S' := T0.setTop (mkF m 105 La77 [(.int (0 : Int32))])) (fun t stp => XS.ifYes X0.here hx rfl (pc0 := 98) (pc' := 105) rfl (hb hby at_98) rfl (XT.i0_eq_t hc98_79) (by decide) (by decide) stp) ?_
          refine own_up (S' := T0.setTop (mkF m 106 La77 [(.int (0 : Int32)), (.int (0 : Int32))])) (fun t stp => XT.iconstV X0.here hx rfl (0 : Int32) (hb hby at_105) rfl stp) ?_
          refine own_up (S' := T0.setTop (mkF m 107 La77 [(.int ((0 : Int32) + (0 : Int32)))])) (fun t stp => XS.iadd X0.here hx rfl (hb hby at_106) rfl stp) ?_
          refine own_up (S' := T0.setTop (mkF m 109 La77 [(.int (0 : Int32)), (.int ((0 : Int32) + (0 : Int32)))])) (fun t stp => XS.iload X0.here hx rfl (hb hby at_107) (by rw [hLa77]; rfl) stp) ?_
          have hc109_80 : (0 : Int32) = 0 := hc88_78
          refine own_up (S' := T0.setTop (mkF m 116 La77 [(.int ((0 : Int32) + (0 : Int32)))])) (fun t stp => XS.ifYes X0.here hx rfl (pc0 := 109) (pc' := 116) rfl (hb hby at_109) rfl (XT.i0_eq_t hc109_80) (by decide) (by decide) stp) ?_
          refine own_up (S' := T0.setTop (mkF m 117 La77 [(.int (0 : Int32)), (.int ((0 : Int32) + (0 : Int32)))])) (fun t stp => XT.iconstV X0.here hx rfl (0 : Int32) (hb hby at_116) rfl stp) ?_
          refine own_up (S' := T0.setTop (mkF m 118 La77 [(.int (((0 : Int32) + (0 : Int32)) + (0 : Int32)))])) (fun t stp => XS.iadd X0.here hx rfl (hb hby at_117) rfl stp) ?_
          refine own_up (S' := T0.setTop (mkF m 120 La77 [(.int (1 : Int32)), (.int (((0 : Int32) + (0 : Int32)) + (0 : Int32)))])) (fun t stp => XS.iload X0.here hx rfl (hb hby at_118) (by rw [hLa77]; rfl) stp) ?_
          have hc120_81 : ¬ ((1 : Int32) = 0) := by decide
          refine own_up (S' := T0.setTop (mkF m 123 La77 [(.int (((0 : Int32) + (0 : Int32)) + (0 : Int32)))])) (fun t stp => XS.ifNo X0.here hx rfl (hb hby at_120) rfl (XT.i0_eq_f hc120_81) stp) ?_
          refine own_up (S' := T0.setTop (mkF m 124 La77 [(.int (1 : Int32)), (.int (((0 : Int32) + (0 : Int32)) + (0 : Int32)))])) (fun t stp => XT.iconstV X0.here hx rfl (1 : Int32) (hb hby at_123) rfl stp) ?_
          refine own_up (S' := T0.setTop (mkF m 128 La77 [(.int (1 : Int32)), (.int (((0 : Int32) + (0 : Int32)) + (0 : Int32)))])) (fun t stp => XS.goto X0.here hx rfl (pc0 := 124) (pc' := 128) rfl (hb hby at_124) (by decide) (by decide) stp) ?_
          refine own_up (S' := T0.setTop (mkF m 129 La77 [(.int ((((0 : Int32) + (0 : Int32)) + (0 : Int32)) + (1 : Int32)))])) (fun t stp => XS.iadd X0.here hx rfl (hb hby at_128) rfl stp) ?_
          show own_Ends p e below s (own_Q0 Z l0 l1 l2 u0 u1 sel h0 n0) room_1.cells room_1.slots (T0.setTop (mkF m 129 La77 [(.int (1 : Int32))]))
          obtain ⟨La82, hLa82⟩ : ∃ L : Array Slot, L = #[.val (.long l0), .second, .val (.long l1), .second, .val (.long l2), .second, .val (.long u0), .second, .val (.long u1), .second, .val (.int sel), .val (.int mm), .val (.int (0 : Int32)), .val (.int (0 : Int32)), .val (.int (0 : Int32)), .val (.int (1 : Int32)), .val (.long u0), .second, .val (.long u1), .second, .val (.long v2), .second, .val (.long v3), .second, .val (.int (1 : Int32)), .unset, .unset, .unset, .unset, .unset, .unset, .unset, .unset, .unset, .unset, .unset, .unset, .unset, .unset, .unset] := ⟨_, rfl⟩
          refine own_up (S' := T0.setTop (mkF m 131 La82 [])) (fun t stp => XS.istore X0.here hx rfl (hb hby at_129) rfl (l' := La82) (by rw [hLa77, hLa82]; rfl) stp) ?_
          refine own_up (S' := T0.setTop (mkF m 133 La82 [(.int (1 : Int32))])) (fun t stp => XS.iload X0.here hx rfl (hb hby at_131) (by rw [hLa82]; rfl) stp) ?_
          refine own_newa X0 hx hZ (ty := .int) rfl (hw _ (List.mem_of_getElem? (i := 0) rfl)) e0 1 (hb hby at_133) (rfl) 1 (by decide) (by decide) (by decide) (by decide) rfl rfl ?_
          intro T83 h83 ad83 hb83 X83 e83 E83 A83
          have g_ad83 : n0 ≤ ad83 := Nat.le_trans Z0 (Nat.le_of_eq hb83.symm)
          have Zn84 := Nat.le_trans Z0 E83.1
          have Al83 : own_Al Z h83 ad83 .int [(.int (0 : Int32))] := A83
          show own_Ends p e below s (own_Q0 Z l0 l1 l2 u0 u1 sel h0 n0) room_1.cells room_1.slots (T83.setTop (mkF m 135 La82 [(.ref ad83)]))
          obtain ⟨La86, hLa86⟩ : ∃ L : Array Slot, L = #[.val (.long l0), .second, .val (.long l1), .second, .val (.long l2), .second, .val (.long u0), .second, .val (.long u1), .second, .val (.int sel), .val (.int mm), .val (.int (0 : Int32)), .val (.int (0 : Int32)), .val (.int (0 : Int32)), .val (.int (1 : Int32)), .val (.long u0), .second, .val (.long u1), .second, .val (.long v2), .second, .val (.long v3), .second, .val (.int (1 : Int32)), .val (.ref ad83), .unset, .unset, .unset, .unset, .unset, .unset, .unset, .unset, .unset, .unset, .unset, .unset, .unset, .unset] := ⟨_, rfl⟩
          refine own_up (S' := T83.setTop (mkF m 137 La86 [])) (fun t stp => XS.astore X83.here hx rfl (hb hby at_135) rfl rfl (l' := La86) (by rw [hLa82, hLa86]; rfl) stp) ?_
          refine own_up (S' := T83.setTop (mkF m 139 La86 [(.int (1 : Int32))])) (fun t stp => XS.iload X83.here hx rfl (hb hby at_137) (by rw [hLa86]; rfl) stp) ?_
          refine own_newa X83 hx hZ (ty := .long) rfl (hw _ (List.mem_of_getElem? (i := 1) rfl)) e83 1 (hb hby at_139) (rfl) 1 (by decide) (by decide) (by decide) (by decide) rfl rfl ?_
          intro T87 h87 ad87 hb87 X87 e87 E87 A87
          have ne87_ad83_ad87 : ad83 ≠ ad87 := Nat.ne_of_lt (Nat.lt_of_lt_of_eq (own_Al_lt Al83) hb87.symm)
          have g_ad87 : n0 ≤ ad87 := Nat.le_trans Zn84 (Nat.le_of_eq hb87.symm)
          have Zn88 := Nat.le_trans Zn84 E87.1
          have Al83_89 := own_Al_ext E87 Al83
          have Al87 : own_Al Z h87 ad87 .long [(.long (0 : Int64))] := A87
          show own_Ends p e below s (own_Q0 Z l0 l1 l2 u0 u1 sel h0 n0) room_1.cells room_1.slots (T87.setTop (mkF m 141 La86 [(.ref ad87)]))
          obtain ⟨La90, hLa90⟩ : ∃ L : Array Slot, L = #[.val (.long l0), .second, .val (.long l1), .second, .val (.long l2), .second, .val (.long u0), .second, .val (.long u1), .second, .val (.int sel), .val (.int mm), .val (.int (0 : Int32)), .val (.int (0 : Int32)), .val (.int (0 : Int32)), .val (.int (1 : Int32)), .val (.long u0), .second, .val (.long u1), .second, .val (.long v2), .second, .val (.long v3), .second, .val (.int (1 : Int32)), .val (.ref ad83), .val (.ref ad87), .unset, .unset, .unset, .unset, .unset, .unset, .unset, .unset, .unset, .unset, .unset, .unset, .unset] := ⟨_, rfl⟩
          refine own_up (S' := T87.setTop (mkF m 143 La90 [])) (fun t stp => XS.astore X87.here hx rfl (hb hby at_141) rfl rfl (l' := La90) (by rw [hLa86, hLa90]; rfl) stp) ?_
          refine own_up (S' := T87.setTop (mkF m 144 La90 [(.int (0 : Int32))])) (fun t stp => XT.iconstV X87.here hx rfl (0 : Int32) (hb hby at_143) rfl stp) ?_
          obtain ⟨La91, hLa91⟩ : ∃ L : Array Slot, L = #[.val (.long l0), .second, .val (.long l1), .second, .val (.long l2), .second, .val (.long u0), .second, .val (.long u1), .second, .val (.int sel), .val (.int mm), .val (.int (0 : Int32)), .val (.int (0 : Int32)), .val (.int (0 : Int32)), .val (.int (1 : Int32)), .val (.long u0), .second, .val (.long u1), .second, .val (.long v2), .second, .val (.long v3), .second, .val (.int (1 : Int32)), .val (.ref ad83), .val (.ref ad87), .val (.int (0 : Int32)), .unset, .unset, .unset, .unset, .unset, .unset, .unset, .unset, .unset, .unset, .unset, .unset] := ⟨_, rfl⟩
          refine own_up (S' := T87.setTop (mkF m 146 La91 [])) (fun t stp => XS.istore X87.here hx rfl (hb hby at_144) rfl (l' := La91) (by rw [hLa90, hLa91]; rfl) stp) ?_
          refine own_up (S' := T87.setTop (mkF m 148 La91 [(.int (0 : Int32))])) (fun t stp => XS.iload X87.here hx rfl (hb hby at_146) (by rw [hLa91]; rfl) stp) ?_
          have hc148_92 : (0 : Int32) = 0 := hc88_78
          refine own_up (S' := T87.setTop (mkF m 167 La91 [])) (fun t stp => XS.ifYes X87.here hx rfl (pc0 := 148) (pc' := 167) rfl (hb hby at_148) rfl (XT.i0_eq_t hc148_92) (by decide) (by decide) stp) ?_
          refine own_up (S' := T87.setTop (mkF m 169 La91 [(.int (0 : Int32))])) (fun t stp => XS.iload X87.here hx rfl (hb hby at_167) (by rw [hLa91]; rfl) stp) ?_
          have hc169_93 : (0 : Int32) = 0 := hc88_78
          refine own_up (S' := T87.setTop (mkF m 188 La91 [])) (fun t stp => XS.ifYes X87.here hx rfl (pc0 := 169) (pc' := 188) rfl (hb hby at_169) rfl (XT.i0_eq_t hc169_93) (by decide) (by decide) stp) ?_
          refine own_up (S' := T87.setTop (mkF m 190 La91 [(.int (0 : Int32))])) (fun t stp => XS.iload X87.here hx rfl (hb hby at_188) (by rw [hLa91]; rfl) stp) ?_
          have hc190_94 : (0 : Int32) = 0 := hc88_78
          refine own_up (S' := T87.setTop (mkF m 209 La91 [])) (fun t stp => XS.ifYes X87.here hx rfl (pc0 := 190) (pc' := 209) rfl (hb hby at_190) rfl (XT.i0_eq_t hc190_94) (by decide) (by decide) stp) ?_
          refine own_up (S' := T87.setTop (mkF m 211 La91 [(.int (1 : Int32))])) (fun t stp => XS.iload X87.here hx rfl (hb hby at_209) (by rw [hLa91]; rfl) stp) ?_
          have hc211_95 : ¬ ((1 : Int32) = 0) := hc120_81
          refine own_up (S' := T87.setTop (mkF m 214 La91 [])) (fun t stp => XS.ifNo X87.here hx rfl (hb hby at_211) rfl (XT.i0_eq_f hc211_95) stp) ?_
          refine own_up (S' := T87.setTop (mkF m 216 La91 [(.ref ad83)])) (fun t stp => XS.aload X87.here hx rfl (hb hby at_214) (by rw [hLa91]; rfl) rfl stp) ?_
          refine own_up (S' := T87.setTop (mkF m 218 La91 [(.int (0 : Int32)), (.ref ad83)])) (fun t stp => XS.iload X87.here hx rfl (hb hby at_216) (by rw [hLa91]; rfl) stp) ?_
          refine own_up (S' := T87.setTop (mkF m 219 La91 [(.int (3 : Int32)), (.int (0 : Int32)), (.ref ad83)])) (fun t stp => XT.iconstV X87.here hx rfl (3 : Int32) (hb hby at_218) rfl stp) ?_
          refine own_sti X87 hx hZ e87 Al83_89 0 (hb hby at_219) (rfl) (Nat.le_of_ble_eq_true rfl) rfl rfl (g' := (mkF m 220 La91 [])) rfl ?_
          intro T96 h96 X96 e96 W96 B96
          have Zn97 := Nat.le_trans Zn88 (Nat.le_of_eq W96.size.symm)
          have Al87_98 := own_Al_oth W96 Al87 (Ne.symm ne87_ad83_ad87)
          have N96 := Fr.snoc X96 N0 g_ad83
          have Al96 : own_Al Z h96 ad83 .int [(.int (3 : Int32))] := B96
          refine own_up (S' := T96.setTop (mkF m 222 La91 [(.ref ad87)])) (fun t stp => XS.aload X96.here hx rfl (hb hby at_220) (by rw [hLa91]; rfl) rfl stp) ?_
          refine own_up (S' := T96.setTop (mkF m 224 La91 [(.int (0 : Int32)), (.ref ad87)])) (fun t stp => XS.iload X96.here hx rfl (hb hby at_222) (by rw [hLa91]; rfl) stp) ?_
          refine own_up (S' := T96.setTop (mkF m 226 La91 [(.long v3), (.int (0 : Int32)), (.ref ad87)])) (fun t stp => XT.lload X96.here hx rfl (hb hby at_224) (by rw [hLa91]; rfl) stp) ?_
          refine own_stj X96 hx hZ e96 Al87_98 0 (hb hby at_226) (rfl) (Nat.le_of_ble_eq_true rfl) rfl rfl (g' := (mkF m 227 La91 [])) rfl ?_
          intro T99 h99 X99 e99 W99 B99
          have Zn100 := Nat.le_trans Zn97 (Nat.le_of_eq W99.size.symm)
          have Al96_101 := own_Al_oth W99 Al96 ne87_ad83_ad87
          have N99 := Fr.snoc X99 N96 g_ad87
          have Al99 : own_Al Z h99 ad87 .long [(.long v3)] := B99
          obtain ⟨La102, hLa102⟩ : ∃ L : Array Slot, L = #[.val (.long l0), .second, .val (.long l1), .second, .val (.long l2), .second, .val (.long u0), .second, .val (.long u1), .second, .val (.int sel), .val (.int mm), .val (.int (0 : Int32)), .val (.int (0 : Int32)), .val (.int (0 : Int32)), .val (.int (1 : Int32)), .val (.long u0), .second, .val (.long u1), .second, .val (.long v2), .second, .val (.long v3), .second, .val (.int (1 : Int32)), .val (.ref ad83), .val (.ref ad87), .val (.int (1 : Int32)), .unset, .unset, .unset, .unset, .unset, .unset, .unset, .unset, .unset, .unset, .unset, .unset] := ⟨_, rfl⟩
          refine own_up (S' := T99.setTop (mkF m 230 La102 [])) (fun t stp => XT.iincV X99.here hx rfl (1 : Int32) (hb hby at_227) rfl (by rw [hLa91]; rfl) (l' := La102) (by rw [hLa91, hLa102]; rfl) stp) ?_
          refine own_up (S' := T99.setTop (mkF m 231 La102 [(.long l0)])) (fun t stp => XT.lloadN X99.here hx rfl (hb hby at_230) (by rw [hLa102]; rfl) stp) ?_
          refine own_up (S' := T99.setTop (mkF m 232 La102 [(.long l1), (.long l0)])) (fun t stp => XT.lloadN X99.here hx rfl (hb hby at_231) (by rw [hLa102]; rfl) stp) ?_
          refine own_up (S' := T99.setTop (mkF m 233 La102 [(.long (l0 ^^^ l1))])) (fun t stp => XT.lxor X99.here hx rfl (hb hby at_232) rfl stp) ?_
          obtain ⟨l3, h_l3⟩ : ∃ z : Int64, z = (l0 ^^^ l1) := ⟨_, rfl⟩
          rw [← h_l3]
          obtain ⟨La103, hLa103⟩ : ∃ L : Array Slot, L = #[.val (.long l0), .second, .val (.long l1), .second, .val (.long l2), .second, .val (.long u0), .second, .val (.long u1), .second, .val (.int sel), .val (.int mm), .val (.int (0 : Int32)), .val (.int (0 : Int32)), .val (.int (0 : Int32)), .val (.int (1 : Int32)), .val (.long u0), .second, .val (.long u1), .second, .val (.long v2), .second, .val (.long v3), .second, .val (.int (1 : Int32)), .val (.ref ad83), .val (.ref ad87), .val (.int (1 : Int32)), .val (.long l3), .second, .unset, .unset, .unset, .unset, .unset, .unset, .unset, .unset, .unset, .unset] := ⟨_, rfl⟩
          refine own_up (S' := T99.setTop (mkF m 235 La103 [])) (fun t stp => XT.lstore X99.here hx rfl (hb hby at_233) rfl (l' := La103) (by rw [hLa102, hLa103]; rfl) stp) ?_
          refine own_up (S' := T99.setTop (mkF m 236 La103 [(.int (4 : Int32))])) (fun t stp => XT.iconstV X99.here hx rfl (4 : Int32) (hb hby at_235) rfl stp) ?_
          refine own_newa X99 hx hZ (ty := .long) rfl (hw _ (List.mem_of_getElem? (i := 1) rfl)) e99 4 (hb hby at_236) (rfl) 4 (by decide) (by decide) (by decide) (by decide) rfl rfl ?_
          intro T104 h104 ad104 hb104 X104 e104 E104 A104
          have ne104_ad83_ad104 : ad83 ≠ ad104 := Nat.ne_of_lt (Nat.lt_of_lt_of_eq (own_Al_lt Al96_101) hb104.symm)
          have ne104_ad87_ad104 : ad87 ≠ ad104 := Nat.ne_of_lt (Nat.lt_of_lt_of_eq (own_Al_lt Al99) hb104.symm)
          have g_ad104 : n0 ≤ ad104 := Nat.le_trans Zn100 (Nat.le_of_eq hb104.symm)
          have Zn105 := Nat.le_trans Zn100 E104.1
          have Al96_106 := own_Al_ext E104 Al96_101
          have Al99_106 := own_Al_ext E104 Al99
          have Al104 : own_Al Z h104 ad104 .long [(.long (0 : Int64)), (.long (0 : Int64)), (.long (0 : Int64)), (.long (0 : Int64))] := A104
          show own_Ends p e below s (own_Q0 Z l0 l1 l2 u0 u1 sel h0 n0) room_1.cells room_1.slots (T104.setTop (mkF m 238 La103 [(.ref ad104)]))
          refine own_up (S' := T104.setTop (mkF m 239 La103 [(.ref ad104), (.ref ad104)])) (fun t stp => XS.dup X104.here hx rfl (hb hby at_238) rfl rfl stp) ?_
          refine own_up (S' := T104.setTop (mkF m 240 La103 [(.int (0 : Int32)), (.ref ad104), (.ref ad104)])) (fun t stp => XT.iconstV X104.here hx rfl (0 : Int32) (hb hby at_239) rfl stp) ?_
          refine own_up (S' := T104.setTop (mkF m 241 La103 [(.long l0), (.int (0 : Int32)), (.ref ad104), (.ref ad104)])) (fun t stp => XT.lloadN X104.here hx rfl (hb hby at_240) (by rw [hLa103]; rfl) stp) ?_
          refine own_stj X104 hx hZ e104 Al104 0 (hb hby at_241) (rfl) (Nat.le_of_ble_eq_true rfl) rfl rfl (g' := (mkF m 242 La103 [(.ref ad104)])) rfl ?_
          intro T107 h107 X107 e107 W107 B107
          have Zn108 := Nat.le_trans Zn105 (Nat.le_of_eq W107.size.symm)
          have Al96_109 := own_Al_oth W107 Al96_106 ne104_ad83_ad104
          have Al99_109 := own_Al_oth W107 Al99_106 ne104_ad87_ad104
          have N107 := Fr.snoc X107 N99 g_ad104
          have Al107 : own_Al Z h107 ad104 .long [(.long l0), (.long (0 : Int64)), (.long (0 : Int64)), (.long (0 : Int64))] := B107
          refine own_up (S' := T107.setTop (mkF m 243 La103 [(.ref ad104), (.ref ad104)])) (fun t stp => XS.dup X107.here hx rfl (hb hby at_242) rfl rfl stp) ?_
          refine own_up (S' := T107.setTop (mkF m 244 La103 [(.int (1 : Int32)), (.ref ad104), (.ref ad104)])) (fun t stp => XT.iconstV X107.here hx rfl (1 : Int32) (hb hby at_243) rfl stp) ?_
          refine own_up (S' := T107.setTop (mkF m 245 La103 [(.long l1), (.int (1 : Int32)), (.ref ad104), (.ref ad104)])) (fun t stp => XT.lloadN X107.here hx rfl (hb hby at_244) (by rw [hLa103]; rfl) stp) ?_
          refine own_stj X107 hx hZ e107 Al107 1 (hb hby at_245) (rfl) (Nat.le_of_ble_eq_true rfl) rfl rfl (g' := (mkF m 246 La103 [(.ref ad104)])) rfl ?_
          intro T110 h110 X110 e110 W110 B110
          have Zn111 := Nat.le_trans Zn108 (Nat.le_of_eq W110.size.symm)
          have Al96_112 := own_Al_oth W110 Al96_109 ne104_ad83_ad104
          have Al99_112 := own_Al_oth W110 Al99_109 ne104_ad87_ad104
          have N110 := Fr.snoc X110 N107 g_ad104
          have Al110 : own_Al Z h110 ad104 .long [(.long l0), (.long l1), (.long (0 : Int64)), (.long (0 : Int64))] := B110
          refine own_up (S' := T110.setTop (mkF m 247 La103 [(.ref ad104), (.ref ad104)])) (fun t stp => XS.dup X110.here hx rfl (hb hby at_246) rfl rfl stp) ?_
          refine own_up (S' := T110.setTop (mkF m 248 La103 [(.int (2 : Int32)), (.ref ad104), (.ref ad104)])) (fun t stp => XT.iconstV X110.here hx rfl (2 : Int32) (hb hby at_247) rfl stp) ?_
          refine own_up (S' := T110.setTop (mkF m 250 La103 [(.long l2), (.int (2 : Int32)), (.ref ad104), (.ref ad104)])) (fun t stp => XT.lload X110.here hx rfl (hb hby at_248) (by rw [hLa103]; rfl) stp) ?_
          refine own_stj X110 hx hZ e110 Al110 2 (hb hby at_250) (rfl) (Nat.le_of_ble_eq_true rfl) rfl rfl (g' := (mkF m 251 La103 [(.ref ad104)])) rfl ?_
          intro T113 h113 X113 e113 W113 B113
          have Zn114 := Nat.le_trans Zn111 (Nat.le_of_eq W113.size.symm)
          have Al96_115 := own_Al_oth W113 Al96_112 ne104_ad83_ad104
          have Al99_115 := own_Al_oth W113 Al99_112 ne104_ad87_ad104
          have N113 := Fr.snoc X113 N110 g_ad104
          have Al113 : own_Al Z h113 ad104 .long [(.long l0), (.long l1), (.long l2), (.long (0 : Int64))] := B113
          refine own_up (S' := T113.setTop (mkF m 252 La103 [(.ref ad104), (.ref ad104)])) (fun t stp => XS.dup X113.here hx rfl (hb hby at_251) rfl rfl stp) ?_
          refine own_up (S' := T113.setTop (mkF m 253 La103 [(.int (3 : Int32)), (.ref ad104), (.ref ad104)])) (fun t stp => XT.iconstV X113.here hx rfl (3 : Int32) (hb hby at_252) rfl stp) ?_
          refine own_up (S' := T113.setTop (mkF m 255 La103 [(.long l3), (.int (3 : Int32)), (.ref ad104), (.ref ad104)])) (fun t stp => XT.lload X113.here hx rfl (hb hby at_253) (by rw [hLa103]; rfl) stp) ?_
          refine own_stj X113 hx hZ e113 Al113 3 (hb hby at_255) (rfl) (Nat.le_of_ble_eq_true rfl) rfl rfl (g' := (mkF m 256 La103 [(.ref ad104)])) rfl ?_
          intro T116 h116 X116 e116 W116 B116
          have Zn117 := Nat.le_trans Zn114 (Nat.le_of_eq W116.size.symm)
          have Al96_118 := own_Al_oth W116 Al96_115 ne104_ad83_ad104
          have Al99_118 := own_Al_oth W116 Al99_115 ne104_ad87_ad104
          have N116 := Fr.snoc X116 N113 g_ad104
          have Al116 : own_Al Z h116 ad104 .long [(.long l0), (.long l1), (.long l2), (.long l3)] := B116
          obtain ⟨La119, hLa119⟩ : ∃ L : Array Slot, L = #[.val (.long l0), .second, .val (.long l1), .second, .val (.long l2), .second, .val (.long u0), .second, .val (.long u1), .second, .val (.int sel), .val (.int mm), .val (.int (0 : Int32)), .val (.int (0 : Int32)), .val (.int (0 : Int32)), .val (.int (1 : Int32)), .val (.long u0), .second, .val (.long u1), .second, .val (.long v2), .second, .val (.long v3), .second, .val (.int (1 : Int32)), .val (.ref ad83), .val (.ref ad87), .val (.int (1 : Int32)), .val (.long l3), .second, .val (.ref ad104), .unset, .unset, .unset, .unset, .unset, .unset, .unset, .unset, .unset] := ⟨_, rfl⟩
          refine own_up (S' := T116.setTop (mkF m 258 La119 [])) (fun t stp => XS.astore X116.here hx rfl (hb hby at_256) rfl rfl (l' := La119) (by rw [hLa103, hLa119]; rfl) stp) ?_
          refine own_new X116 hx hZ hown (hw _ (List.mem_of_getElem? (i := 2) rfl)) (hw _ (List.mem_of_getElem? (i := 3) rfl)) (hw _ (List.mem_of_getElem? (i := 4) rfl)) e116 rfl (hb hby at_258) (by decide) (by decide) ?_
          intro T120 h120 ob hb120 X120 e120 E120 A120 D120
          have ne120_ad83_ob : ad83 ≠ ob := Nat.ne_of_lt (Nat.lt_of_lt_of_eq (own_Al_lt Al96_118) hb120.symm)
          have ne120_ad87_ob : ad87 ≠ ob := Nat.ne_of_lt (Nat.lt_of_lt_of_eq (own_Al_lt Al99_118) hb120.symm)
          have ne120_ad104_ob : ad104 ≠ ob := Nat.ne_of_lt (Nat.lt_of_lt_of_eq (own_Al_lt Al116) hb120.symm)
          have g_ob : n0 ≤ ob := Nat.le_trans Zn117 (Nat.le_of_eq hb120.symm)
          have Zn121 := Nat.le_trans Zn117 E120.1
          have Al96_122 := own_Al_ext E120 Al96_118
          have Al99_122 := own_Al_ext E120 Al99_118
          have Al116_122 := own_Al_ext E120 Al116
          have Fresources_ob : Fld Z h120 ob "com/example/outcry/outcry/combinatorial/Bundle" "resources" "[I" .null := D120 (Or.inr (hw _ (List.mem_of_getElem? (i := 17) rfl))) (ty := (.array .int)) (by decide)
          have Funits_ob : Fld Z h120 ob "com/example/outcry/outcry/combinatorial/Bundle" "units" "[J" .null := D120 (Or.inr (hw _ (List.mem_of_getElem? (i := 19) rfl))) (ty := (.array .long)) (by decide)
          show own_Ends p e below s (own_Q0 Z l0 l1 l2 u0 u1 sel h0 n0) room_1.cells room_1.slots (T120.setTop (mkF m 261 La119 [(.ref ob)]))
          refine own_up (S' := T120.setTop (mkF m 262 La119 [(.ref ob), (.ref ob)])) (fun t stp => XS.dup X120.here hx rfl (hb hby at_261) rfl rfl stp) ?_
          refine own_up (S' := T120.setTop (mkF m 264 La119 [(.ref ad83), (.ref ob), (.ref ob)])) (fun t stp => XS.aload X120.here hx rfl (hb hby at_262) (by rw [hLa119]; rfl) rfl stp) ?_
          refine own_up (S' := T120.setTop (mkF m 266 La119 [(.ref ad87), (.ref ad83), (.ref ob), (.ref ob)])) (fun t stp => XS.aload X120.here hx rfl (hb hby at_264) (by rw [hLa119]; rfl) rfl stp) ?_
          refine own_callI X120 hx hZ rfl hown (hw _ (List.mem_of_getElem? (i := 5) rfl)) (hw _ (List.mem_of_getElem? (i := 6) rfl)) (hw _ (List.mem_of_getElem? (i := 4) rfl)) (hw _ (List.mem_of_getElem? (i := 7) rfl)) (by decide) e120 (rm2 l Z a0 hw [] ob ad83 ad87 h120 n0 Zn121 Fresources_ob Funits_ob A120 g_ob) 1 ob [(.ref ad83), (.ref ad87)] [(.ref ob)] (hb hby at_266) (lenOf own_pd1 rfl) (by decide) (by decide) (by decide) (by decide) rfl (by rw [hml, hLa119]; rfl) rfl (by show 2 * 0 + _ ≤ _; exact Nat.le_of_eq rfl) rfl ?_
          intro T123 L123 r123 X123 q123
          obtain ⟨rfl, M123, K123, G123a_123, G123b_123⟩ := q123
          have N123 := Fr.app N116 M123
          have Zn124 := Nat.le_trans Zn121 K123.1
          have Al96_125 := own_Al_keep K123 Al96_122 (ninS ne120_ad83_ob nin0)
          have Al99_125 := own_Al_keep K123 Al99_122 (ninS ne120_ad87_ob nin0)
          have Al116_125 := own_Al_keep K123 Al116_122 (ninS ne120_ad104_ob nin0)
          have A120_125 := A120.keep K123
          show own_Ends p e below s (own_Q0 Z l0 l1 l2 u0 u1 sel h0 n0) room_1.cells room_1.slots (T123.setTop (mkF m 269 La119 [(.ref ob)]))
          obtain ⟨La126, hLa126⟩ : ∃ L : Array Slot, L = #[.val (.long l0), .second, .val (.long l1), .second, .val (.long l2), .second, .val (.long u0), .second, .val (.long u1), .second, .val (.int sel), .val (.int mm), .val (.int (0 : Int32)), .val (.int (0 : Int32)), .val (.int (0 : Int32)), .val (.int (1 : Int32)), .val (.long u0), .second, .val (.long u1), .second, .val (.long v2), .second, .val (.long v3), .second, .val (.int (1 : Int32)), .val (.ref ad83), .val (.ref ad87), .val (.int (1 : Int32)), .val (.long l3), .second, .val (.ref ad104), .val (.ref ob), .unset, .unset, .unset, .unset, .unset, .unset, .unset, .unset] := ⟨_, rfl⟩
          refine own_up (S' := T123.setTop (mkF m 271 La126 [])) (fun t stp => XS.astore X123.here hx rfl (hb hby at_269) rfl rfl (l' := La126) (by rw [hLa119, hLa126]; rfl) stp) ?_
          refine own_up (S' := T123.setTop (mkF m 273 La126 [(.ref ob)])) (fun t stp => XS.aload X123.here hx rfl (hb hby at_271) (by rw [hLa126]; rfl) rfl stp) ?_
          refine own_up (S' := T123.setTop (mkF m 275 La126 [(.ref ad104), (.ref ob)])) (fun t stp => XS.aload X123.here hx rfl (hb hby at_273) (by rw [hLa126]; rfl) rfl stp) ?_
          refine own_callV X123 hx hZ hown (hw _ (List.mem_of_getElem? (i := 20) rfl)) (hw _ (List.mem_of_getElem? (i := 21) rfl)) (hw _ (List.mem_of_getElem? (i := 23) rfl)) (hw _ (List.mem_of_getElem? (i := 22) rfl)) (hw _ (List.mem_of_getElem? (i := 4) rfl)) (hw _ (List.mem_of_getElem? (i := 24) rfl)) (by decide) rfl (rm11 l Z a0 hw [] ob ad104 ad83 ad87 [(.long l0), (.long l1), (.long l2), (.long l3)] (3 : Int32) v3 (3) l3 T123.heap n0 Zn124 G123a_123 G123b_123 Al96_125 Al99_125 Al116_125 g_ad104 ne104_ad83_ad104 ne104_ad87_ad104 (Ne.symm ne120_ad104_ob) (rfl) (rfl)) 0 A120_125 [(.ref ad104)] [] (hb hby at_275) (lenOf own_pd2 rfl) (by decide) (by decide) (by decide) (by decide) rfl (by rw [hml, hLa126]; rfl) rfl (by show 2 * 0 + _ ≤ _; exact Nat.le_of_eq rfl) rfl ?_
          intro T127 L127 r127 X127 q127
          obtain ⟨rfl, M127, K127, G127a_127⟩ := q127
          have N127 := Fr.app N123 M127
          have Zn128 := Nat.le_trans Zn124 K127.1
          have Al96_129 := own_Al_keep K127 Al96_125 (ninS ne104_ad83_ad104 nin0)
          have Al99_129 := own_Al_keep K127 Al99_125 (ninS ne104_ad87_ad104 nin0)
          have A120_129 := A120_125.keep K127
          have G123a_129 := G123a_123.keep K127 (ninS (Ne.symm ne120_ad104_ob) nin0)
          have G123b_129 := G123b_123.keep K127 (ninS (Ne.symm ne120_ad104_ob) nin0)
          show own_Ends p e below s (own_Q0 Z l0 l1 l2 u0 u1 sel h0 n0) room_1.cells room_1.slots (T127.setTop (mkF m 278 La126 []))
          have Tk127 : own_Al Z T127.heap ad104 .long [(.long l0), (.long l1), (.long l2), (.long (l3 - v3))] := G127a_127
          refine own_up (S' := T127.setTop (mkF m 280 La126 [(.int (0 : Int32))])) (fun t stp => XS.iload X127.here hx rfl (hb hby at_278) (by rw [hLa126]; rfl) stp) ?_
          have hc280_130 : (0 : Int32) = 0 := hc88_78
          refine own_up (S' := T127.setTop (mkF m 290 La126 [])) (fun t stp => XS.ifYes X127.here hx rfl (pc0 := 280) (pc' := 290) rfl (hb hby at_280) rfl (XT.i0_eq_t hc280_130) (by decide) (by decide) stp) ?_
          refine own_up (S' := T127.setTop (mkF m 291 La126 [(.long l0)])) (fun t stp => XT.lloadN X127.here hx rfl (hb hby at_290) (by rw [hLa126]; rfl) stp) ?_
          obtain ⟨La131, hLa131⟩ : ∃ L : Array Slot, L = #[.val (.long l0), .second, .val (.long l1), .second, .val (.long l2), .second, .val (.long u0), .second, .val (.long u1), .second, .val (.int sel), .val (.int mm), .val (.int (0 : Int32)), .val (.int (0 : Int32)), .val (.int (0 : Int32)), .val (.int (1 : Int32)), .val (.long u0), .second, .val (.long u1), .second, .val (.long v2), .second, .val (.long v3), .second, .val (.int (1 : Int32)), .val (.ref ad83), .val (.ref ad87), .val (.int (1 : Int32)), .val (.long l3), .second, .val (.ref ad104), .val (.ref ob), .val (.long l0), .second, .unset, .unset, .unset, .unset, .unset, .unset] := ⟨_, rfl⟩
          refine own_up (S' := T127.setTop (mkF m 293 La131 [])) (fun t stp => XT.lstore X127.here hx rfl (hb hby at_291) rfl (l' := La131) (by rw [hLa126, hLa131]; rfl) stp) ?_
          refine own_up (S' := T127.setTop (mkF m 295 La131 [(.int (0 : Int32))])) (fun t stp => XS.iload X127.here hx rfl (hb hby at_293) (by rw [hLa131]; rfl) stp) ?_
          have hc295_132 : (0 : Int32) = 0 := hc88_78
          refine own_up (S' := T127.setTop (mkF m 305 La131 [])) (fun t stp => XS.ifYes X127.here hx rfl (pc0 := 295) (pc' := 305) rfl (hb hby at_295) rfl (XT.i0_eq_t hc295_132) (by decide) (by decide) stp) ?_
          refine own_up (S' := T127.setTop (mkF m 306 La131 [(.long l1)])) (fun t stp => XT.lloadN X127.here hx rfl (hb hby at_305) (by rw [hLa131]; rfl) stp) ?_
          obtain ⟨La133, hLa133⟩ : ∃ L : Array Slot, L = #[.val (.long l0), .second, .val (.long l1), .second, .val (.long l2), .second, .val (.long u0), .second, .val (.long u1), .second, .val (.int sel), .val (.int mm), .val (.int (0 : Int32)), .val (.int (0 : Int32)), .val (.int (0 : Int32)), .val (.int (1 : Int32)), .val (.long u0), .second, .val (.long u1), .second, .val (.long v2), .second, .val (.long v3), .second, .val (.int (1 : Int32)), .val (.ref ad83), .val (.ref ad87), .val (.int (1 : Int32)), .val (.long l3), .second, .val (.ref ad104), .val (.ref ob), .val (.long l0), .second, .val (.long l1), .second, .unset, .unset, .unset, .unset] := ⟨_, rfl⟩
          refine own_up (S' := T127.setTop (mkF m 308 La133 [])) (fun t stp => XT.lstore X127.here hx rfl (hb hby at_306) rfl (l' := La133) (by rw [hLa131, hLa133]; rfl) stp) ?_
          refine own_up (S' := T127.setTop (mkF m 310 La133 [(.int (0 : Int32))])) (fun t stp => XS.iload X127.here hx rfl (hb hby at_308) (by rw [hLa133]; rfl) stp) ?_
          have hc310_134 : (0 : Int32) = 0 := hc88_78
          refine own_up (S' := T127.setTop (mkF m 321 La133 [])) (fun t stp => XS.ifYes X127.here hx rfl (pc0 := 310) (pc' := 321) rfl (hb hby at_310) rfl (XT.i0_eq_t hc310_134) (by decide) (by decide) stp) ?_
          refine own_up (S' := T127.setTop (mkF m 323 La133 [(.long l2)])) (fun t stp => XT.lload X127.here hx rfl (hb hby at_321) (by rw [hLa133]; rfl) stp) ?_
          obtain ⟨La135, hLa135⟩ : ∃ L : Array Slot, L = #[.val (.long l0), .second, .val (.long l1), .second, .val (.long l2), .second, .val (.long u0), .second, .val (.long u1), .second, .val (.int sel), .val (.int mm), .val (.int (0 : Int32)), .val (.int (0 : Int32)), .val (.int (0 : Int32)), .val (.int (1 : Int32)), .val (.long u0), .second, .val (.long u1), .second, .val (.long v2), .second, .val (.long v3), .second, .val (.int (1 : Int32)), .val (.ref ad83), .val (.ref ad87), .val (.int (1 : Int32)), .val (.long l3), .second, .val (.ref ad104), .val (.ref ob), .val (.long l0), .second, .val (.long l1), .second, .val (.long l2), .second, .unset, .unset] := ⟨_, rfl⟩
          refine own_up (S' := T127.setTop (mkF m 325 La135 [])) (fun t stp => XT.lstore X127.here hx rfl (hb hby at_323) rfl (l' := La135) (by rw [hLa133, hLa135]; rfl) stp) ?_
          refine own_up (S' := T127.setTop (mkF m 327 La135 [(.int (1 : Int32))])) (fun t stp => XS.iload X127.here hx rfl (hb hby at_325) (by rw [hLa135]; rfl) stp) ?_
          have hc327_136 : ¬ ((1 : Int32) = 0) := hc120_81
          refine own_up (S' := T127.setTop (mkF m 330 La135 [])) (fun t stp => XS.ifNo X127.here hx rfl (hb hby at_327) rfl (XT.i0_eq_f hc327_136) stp) ?_
          refine own_up (S' := T127.setTop (mkF m 332 La135 [(.long l3)])) (fun t stp => XT.lload X127.here hx rfl (hb hby at_330) (by rw [hLa135]; rfl) stp) ?_
          refine own_up (S' := T127.setTop (mkF m 334 La135 [(.long v3), (.long l3)])) (fun t stp => XT.lload X127.here hx rfl (hb hby at_332) (by rw [hLa135]; rfl) stp) ?_
          refine own_up (S' := T127.setTop (mkF m 335 La135 [(.long (l3 - v3))])) (fun t stp => XT.lsub X127.here hx rfl (hb hby at_334) rfl stp) ?_
          refine own_up (S' := T127.setTop (mkF m 340 La135 [(.long (l3 - v3))])) (fun t stp => XS.goto X127.here hx rfl (pc0 := 335) (pc' := 340) rfl (hb hby at_335) (by decide) (by decide) stp) ?_
          obtain ⟨e3q, h_e3q⟩ : ∃ z : Int64, z = (l3 - v3) := ⟨_, rfl⟩
          rw [← h_e3q]
          obtain ⟨La137, hLa137⟩ : ∃ L : Array Slot, L = #[.val (.long l0), .second, .val (.long l1), .second, .val (.long l2), .second, .val (.long u0), .second, .val (.long u1), .second, .val (.int sel), .val (.int mm), .val (.int (0 : Int32)), .val (.int (0 : Int32)), .val (.int (0 : Int32)), .val (.int (1 : Int32)), .val (.long u0), .second, .val (.long u1), .second, .val (.long v2), .second, .val (.long v3), .second, .val (.int (1 : Int32)), .val (.ref ad83), .val (.ref ad87), .val (.int (1 : Int32)), .val (.long l3), .second, .val (.ref ad104), .val (.ref ob), .val (.long l0), .second, .val (.long l1), .second, .val (.long l2), .second, .val (.long e3q), .second] := ⟨_, rfl⟩
          refine own_up (S' := T127.setTop (mkF m 342 La137 [])) (fun t stp => XT.lstore X127.here hx rfl (hb hby at_340) rfl (l' := La137) (by rw [hLa135, hLa137]; rfl) stp) ?_
          refine own_up (S' := T127.setTop (mkF m 344 La137 [(.ref ad104)])) (fun t stp => XS.aload X127.here hx rfl (hb hby at_342) (by rw [hLa137]; rfl) rfl stp) ?_
          refine own_len X127 hx hZ rfl Tk127 (4 : Int32) (hb hby at_344) (rfl) rfl rfl (g' := (mkF m 345 La137 [(.int (4 : Int32))])) rfl ?_
          refine own_up (S' := T127.setTop (mkF m 346 La137 [(.int (4 : Int32)), (.int (4 : Int32))])) (fun t stp => XT.iconstV X127.here hx rfl (4 : Int32) (hb hby at_345) rfl stp) ?_
          have hc346_138 : (4 : Int32) = (4 : Int32) := rfl
          refine own_up (S' := T127.setTop (mkF m 349 La137 [])) (fun t stp => XS.icmpNo X127.here hx rfl (hb hby at_346) rfl (XT.ii_ne_f hc346_138) stp) ?_
          refine own_up (S' := T127.setTop (mkF m 351 La137 [(.ref ad104)])) (fun t stp => XS.aload X127.here hx rfl (hb hby at_349) (by rw [hLa137]; rfl) rfl stp) ?_
          refine own_up (S' := T127.setTop (mkF m 352 La137 [(.int (0 : Int32)), (.ref ad104)])) (fun t stp => XT.iconstV X127.here hx rfl (0 : Int32) (hb hby at_351) rfl stp) ?_
          refine own_ldj X127 hx hZ rfl Tk127 (v := (.long l0)) 0 (hb hby at_352) (rfl) (rfl) rfl rfl (g' := (mkF m 353 La137 [(.long l0)])) rfl ?_
          refine own_up (S' := T127.setTop (mkF m 355 La137 [(.long l0), (.long l0)])) (fun t stp => XT.lload X127.here hx rfl (hb hby at_353) (by rw [hLa137]; rfl) stp) ?_
          refine own_up (S' := T127.setTop (mkF m 356 La137 [(.int (XT.cmpL l0 l0))])) (fun t stp => XT.lcmp X127.here hx rfl (hb hby at_355) rfl stp) ?_
          have hc356_139 : l0 = l0 := rfl
          have ihc356_139 : l0.toInt = l0.toInt := own_leq hc356_139
          refine own_up (S' := T127.setTop (mkF m 359 La137 [])) (fun t stp => XS.ifNo X127.here hx rfl (hb hby at_356) rfl (XT.ll_ne_f hc356_139) stp) ?_
          refine own_up (S' := T127.setTop (mkF m 361 La137 [(.ref ad104)])) (fun t stp => XS.aload X127.here hx rfl (hb hby at_359) (by rw [hLa137]; rfl) rfl stp) ?_
          refine own_up (S' := T127.setTop (mkF m 362 La137 [(.int (1 : Int32)), (.ref ad104)])) (fun t stp => XT.iconstV X127.here hx rfl (1 : Int32) (hb hby at_361) rfl stp) ?_
          refine own_ldj X127 hx hZ rfl Tk127 (v := (.long l1)) 1 (hb hby at_362) (rfl) (rfl) rfl rfl (g' := (mkF m 363 La137 [(.long l1)])) rfl ?_
          refine own_up (S' := T127.setTop (mkF m 365 La137 [(.long l1), (.long l1)])) (fun t stp => XT.lload X127.here hx rfl (hb hby at_363) (by rw [hLa137]; rfl) stp) ?_
          refine own_up (S' := T127.setTop (mkF m 366 La137 [(.int (XT.cmpL l1 l1))])) (fun t stp => XT.lcmp X127.here hx rfl (hb hby at_365) rfl stp) ?_
          have hc366_140 : l1 = l1 := rfl
          have ihc366_140 : l1.toInt = l1.toInt := own_leq hc366_140
          refine own_up (S' := T127.setTop (mkF m 369 La137 [])) (fun t stp => XS.ifNo X127.here hx rfl (hb hby at_366) rfl (XT.ll_ne_f hc366_140) stp) ?_
          refine own_up (S' := T127.setTop (mkF m 371 La137 [(.ref ad104)])) (fun t stp => XS.aload X127.here hx rfl (hb hby at_369) (by rw [hLa137]; rfl) rfl stp) ?_
          refine own_up (S' := T127.setTop (mkF m 372 La137 [(.int (2 : Int32)), (.ref ad104)])) (fun t stp => XT.iconstV X127.here hx rfl (2 : Int32) (hb hby at_371) rfl stp) ?_
          refine own_ldj X127 hx hZ rfl Tk127 (v := (.long l2)) 2 (hb hby at_372) (rfl) (rfl) rfl rfl (g' := (mkF m 373 La137 [(.long l2)])) rfl ?_
          refine own_up (S' := T127.setTop (mkF m 375 La137 [(.long l2), (.long l2)])) (fun t stp => XT.lload X127.here hx rfl (hb hby at_373) (by rw [hLa137]; rfl) stp) ?_
          refine own_up (S' := T127.setTop (mkF m 376 La137 [(.int (XT.cmpL l2 l2))])) (fun t stp => XT.lcmp X127.here hx rfl (hb hby at_375) rfl stp) ?_
          have hc376_141 : l2 = l2 := rfl
          have ihc376_141 : l2.toInt = l2.toInt := own_leq hc376_141
          refine own_up (S' := T127.setTop (mkF m 379 La137 [])) (fun t stp => XS.ifNo X127.here hx rfl (hb hby at_376) rfl (XT.ll_ne_f hc376_141) stp) ?_
          refine own_up (S' := T127.setTop (mkF m 381 La137 [(.ref ad104)])) (fun t stp => XS.aload X127.here hx rfl (hb hby at_379) (by rw [hLa137]; rfl) rfl stp) ?_
          refine own_up (S' := T127.setTop (mkF m 382 La137 [(.int (3 : Int32)), (.ref ad104)])) (fun t stp => XT.iconstV X127.here hx rfl (3 : Int32) (hb hby at_381) rfl stp) ?_
          refine own_ldj X127 hx hZ rfl Tk127 (v := (.long (l3 - v3))) 3 (hb hby at_382) (rfl) (rfl) rfl rfl (g' := (mkF m 383 La137 [(.long (l3 - v3))])) rfl ?_
          refine own_up (S' := T127.setTop (mkF m 385 La137 [(.long e3q), (.long (l3 - v3))])) (fun t stp => XT.lload X127.here hx rfl (hb hby at_383) (by rw [hLa137]; rfl) stp) ?_
          refine own_up (S' := T127.setTop (mkF m 386 La137 [(.int (XT.cmpL (l3 - v3) e3q))])) (fun t stp => XT.lcmp X127.here hx rfl (hb hby at_385) rfl stp) ?_
          have hc386_142 : (l3 - v3) = e3q := h_e3q.symm
          have ihc386_142 : (l3 - v3).toInt = e3q.toInt := own_leq hc386_142
          refine own_up (S' := T127.setTop (mkF m 389 La137 [])) (fun t stp => XS.ifNo X127.here hx rfl (hb hby at_386) rfl (XT.ll_ne_f hc386_142) stp) ?_
          refine own_up (S' := T127.setTop (mkF m 390 La137 [(.int (1 : Int32))])) (fun t stp => XT.iconstV X127.here hx rfl (1 : Int32) (hb hby at_389) rfl stp) ?_
          refine own_up (S' := T127.setTop (mkF m 394 La137 [(.int (1 : Int32))])) (fun t stp => XS.goto X127.here hx rfl (pc0 := 390) (pc' := 394) rfl (hb hby at_390) (by decide) (by decide) stp) ?_
          refine own_retN X127 hx hlk (t := .boolean) hret (by simp) (z' := (1 : Int32)) rfl (hb hby at_394) (by decide) (by decide) ?_
          show own_Q0 Z l0 l1 l2 u0 u1 sel h0 n0 _ T127.heap _
          exact ⟨rfl, N127⟩
      · have ihc39_7 : (mm &&& (4 : Int32)).toInt ≠ 0 := own_ine hc39_7
        refine own_up (S' := T0.setTop (mkF m 42 La6 [])) (fun t stp => XS.ifNo X0.here hx rfl (hb hby at_39) rfl (XT.i0_eq_f hc39_7) stp) ?_
        refine own_up (S' := T0.setTop (mkF m 43 La6 [(.int (1 : Int32))])) (fun t stp => XT.iconstV X0.here hx rfl (1 : Int32) (hb hby at_42) rfl stp) ?_
        refine own_up (S' := T0.setTop (mkF m 47 La6 [(.int (1 : Int32))])) (fun t stp => XS.goto X0.here hx rfl (pc0 := 43) (pc' := 47) rfl (hb hby at_43) (by decide) (by decide) stp) ?_
        obtain ⟨La143, hLa143⟩ : ∃ L : Array Slot, L = #[.val (.long l0), .second, .val (.long l1), .second, .val (.long l2), .second, .val (.long u0), .second, .val (.long u1), .second, .val (.int sel), .val (.int mm), .val (.int (0 : Int32)), .val (.int (0 : Int32)), .val (.int (1 : Int32)), .unset, .unset, .unset, .unset, .unset, .unset, .unset, .unset, .unset, .unset, .unset, .unset, .unset, .unset, .unset, .unset, .unset, .unset, .unset, .unset, .unset, .unset, .unset, .unset, .unset] := ⟨_, rfl⟩
        refine own_up (S' := T0.setTop (mkF m 49 La143 [])) (fun t stp => XS.istore X0.here hx rfl (hb hby at_47) rfl (l' := La143) (by rw [hLa6, hLa143]; rfl) stp) ?_
        refine own_up (S' := T0.setTop (mkF m 51 La143 [(.int mm)])) (fun t stp => XS.iload X0.here hx rfl (hb hby at_49) (by rw [hLa143]; rfl) stp) ?_
        refine own_up (S' := T0.setTop (mkF m 53 La143 [(.int (8 : Int32)), (.int mm)])) (fun t stp => XT.bipushV X0.here hx rfl (8 : Int32) (hb hby at_51) rfl stp) ?_
        refine own_up (S' := T0.setTop (mkF m 54 La143 [(.int (mm &&& (8 : Int32)))])) (fun t stp => XS.iand X0.here hx rfl (hb hby at_53) rfl stp) ?_
        by_cases hc54_144 : (mm &&& (8 : Int32)) = 0
        · have ihc54_144 : (mm &&& (8 : Int32)).toInt = 0 := own_ieq hc54_144
          refine own_up (S' := T0.setTop (mkF m 61 La143 [])) (fun t stp => XS.ifYes X0.here hx rfl (pc0 := 54) (pc' := 61) rfl (hb hby at_54) rfl (XT.i0_eq_t hc54_144) (by decide) (by decide) stp) ?_
          refine own_up (S' := T0.setTop (mkF m 62 La143 [(.int (0 : Int32))])) (fun t stp => XT.iconstV X0.here hx rfl (0 : Int32) (hb hby at_61) rfl stp) ?_
          obtain ⟨La145, hLa145⟩ : ∃ L : Array Slot, L = #[.val (.long l0), .second, .val (.long l1), .second, .val (.long l2), .second, .val (.long u0), .second, .val (.long u1), .second, .val (.int sel), .val (.int mm), .val (.int (0 : Int32)), .val (.int (0 : Int32)), .val (.int (1 : Int32)), .val (.int (0 : Int32)), .unset, .unset, .unset, .unset, .unset, .unset, .unset, .unset, .unset, .unset, .unset, .unset, .unset, .unset, .unset, .unset, .unset, .unset, .unset, .unset, .unset, .unset, .unset, .unset] := ⟨_, rfl⟩
          refine own_up (S' := T0.setTop (mkF m 64 La145 [])) (fun t stp => XS.istore X0.here hx rfl (hb hby at_62) rfl (l' := La145) (by rw [hLa143, hLa145]; rfl) stp) ?_
          refine own_up (S' := T0.setTop (mkF m 66 La145 [(.long u0)])) (fun t stp => XT.lload X0.here hx rfl (hb hby at_64) (by rw [hLa145]; rfl) stp) ?_
          obtain ⟨La146, hLa146⟩ : ∃ L : Array Slot, L = #[.val (.long l0), .second, .val (.long l1), .second, .val (.long l2), .second, .val (.long u0), .second, .val (.long u1), .second, .val (.int sel), .val (.int mm), .val (.int (0 : Int32)), .val (.int (0 : Int32)), .val (.int (1 : Int32)), .val (.int (0 : Int32)), .val (.long u0), .second, .unset, .unset, .unset, .unset, .unset, .unset, .unset, .unset, .unset, .unset, .unset, .unset, .unset, .unset, .unset, .unset, .unset, .unset, .unset, .unset, .unset, .unset] := ⟨_, rfl⟩
          refine own_up (S' := T0.setTop (mkF m 68 La146 [])) (fun t stp => XT.lstore X0.here hx rfl (hb hby at_66) rfl (l' := La146) (by rw [hLa145, hLa146]; rfl) stp) ?_
          refine own_up (S' := T0.setTop (mkF m 70 La146 [(.long u1)])) (fun t stp => XT.lload X0.here hx rfl (hb hby at_68) (by rw [hLa146]; rfl) stp) ?_
          obtain ⟨La147, hLa147⟩ : ∃ L : Array Slot, L = #[.val (.long l0), .second, .val (.long l1), .second, .val (.long l2), .second, .val (.long u0), .second, .val (.long u1), .second, .val (.int sel), .val (.int mm), .val (.int (0 : Int32)), .val (.int (0 : Int32)), .val (.int (1 : Int32)), .val (.int (0 : Int32)), .val (.long u0), .second, .val (.long u1), .second, .unset, .unset, .unset, .unset, .unset, .unset, .unset, .unset, .unset, .unset, .unset, .unset, .unset, .unset, .unset, .unset, .unset, .unset, .unset, .unset] := ⟨_, rfl⟩
          refine own_up (S' := T0.setTop (mkF m 72 La147 [])) (fun t stp => XT.lstore X0.here hx rfl (hb hby at_70) rfl (l' := La147) (by rw [hLa146, hLa147]; rfl) stp) ?_
          refine own_up (S' := T0.setTop (mkF m 74 La147 [(.long u0)])) (fun t stp => XT.lload X0.here hx rfl (hb hby at_72) (by rw [hLa147]; rfl) stp) ?_
          refine own_up (S' := T0.setTop (mkF m 76 La147 [(.long u1), (.long u0)])) (fun t stp => XT.lload X0.here hx rfl (hb hby at_74) (by rw [hLa147]; rfl) stp) ?_
          refine own_up (S' := T0.setTop (mkF m 77 La147 [(.long (u0 - u1))])) (fun t stp => XT.lsub X0.here hx rfl (hb hby at_76) rfl stp) ?_
          obtain ⟨v2, h_v2⟩ : ∃ z : Int64, z = (u0 - u1) := ⟨_, rfl⟩
          rw [← h_v2]
          obtain ⟨La148, hLa148⟩ : ∃ L : Array Slot, L = #[.val (.long l0), .second, .val (.long l1), .second, .val (.long l2), .second, .val (.long u0), .second, .val (.long u1), .second, .val (.int sel), .val (.int mm), .val (.int (0 : Int32)), .val (.int (0 : Int32)), .val (.int (1 : Int32)), .val (.int (0 : Int32)), .val (.long u0), .second, .val (.long u1), .second, .val (.long v2), .second, .unset, .unset, .unset, .unset, .unset, .unset, .unset, .unset, .unset, .unset, .unset, .unset, .unset, .unset, .unset, .unset, .unset, .unset] := ⟨_, rfl⟩
          refine own_up (S' := T0.setTop (mkF m 79 La148 [])) (fun t stp => XT.lstore X0.here hx rfl (hb hby at_77) rfl (l' := La148) (by rw [hLa147, hLa148]; rfl) stp) ?_
          refine own_up (S' := T0.setTop (mkF m 81 La148 [(.long u1)])) (fun t stp => XT.lload X0.here hx rfl (hb hby at_79) (by rw [hLa148]; rfl) stp) ?_
          refine own_up (S' := T0.setTop (mkF m 83 La148 [(.long l2), (.long u1)])) (fun t stp => XT.lload X0.here hx rfl (hb hby at_81) (by rw [hLa148]; rfl) stp) ?_
          refine own_up (S' := T0.setTop (mkF m 84 La148 [(.long (u1 ^^^ l2))])) (fun t stp => XT.lxor X0.here hx rfl (hb hby at_83) rfl stp) ?_
          obtain ⟨v3, h_v3⟩ : ∃ z : Int64, z = (u1 ^^^ l2) := ⟨_, rfl⟩
          rw [← h_v3]
          obtain ⟨La149, hLa149⟩ : ∃ L : Array Slot, L = #[.val (.long l0), .second, .val (.long l1), .second, .val (.long l2), .second, .val (.long u0), .second, .val (.long u1), .second, .val (.int sel), .val (.int mm), .val (.int (0 : Int32)), .val (.int (0 : Int32)), .val (.int (1 : Int32)), .val (.int (0 : Int32)), .val (.long u0), .second, .val (.long u1), .second, .val (.long v2), .second, .val (.long v3), .second, .unset, .unset, .unset, .unset, .unset, .unset, .unset, .unset, .unset, .unset, .unset, .unset, .unset, .unset, .unset, .unset] := ⟨_, rfl⟩
          refine own_up (S' := T0.setTop (mkF m 86 La149 [])) (fun t stp => XT.lstore X0.here hx rfl (hb hby at_84) rfl (l' := La149) (by rw [hLa148, hLa149]; rfl) stp) ?_
          refine own_up (S' := T0.setTop (mkF m 88 La149 [(.int (0 : Int32))])) (fun t stp => XS.iload X0.here hx rfl (hb hby at_86) (by rw [hLa149]; rfl) stp) ?_
          have hc88_150 : (0 : Int32) = 0 := by decide
          refine own_up (S' := T0.setTop (mkF m 95 La149 [])) (fun t stp => XS.ifYes X0.here hx rfl (pc0 := 88) (pc' := 95) rfl (hb hby at_88) rfl (XT.i0_eq_t hc88_150) (by decide) (by decide) stp) ?_
          refine own_up (S' := T0.setTop (mkF m 96 La149 [(.int (0 : Int32))])) (fun t stp => XT.iconstV X0.here hx rfl (0 : Int32) (hb hby at_95) rfl stp) ?_
          refine own_up (S' := T0.setTop (mkF m 98 La149 [(.int (0 : Int32)), (.int (0 : Int32))])) (fun t stp => XS.iload X0.here hx rfl (hb hby at_96) (by rw [hLa149]; rfl) stp) ?_
          have hc98_151 : (0 : Int32) = 0 := hc88_150
          refine own_up (S' := T0.setTop (mkF m 105 La149 [(.int (0 : Int32))])) (fun t stp => XS.ifYes X0.here hx rfl (pc0 := 98) (pc' := 105) rfl (hb hby at_98) rfl (XT.i0_eq_t hc98_151) (by decide) (by decide) stp) ?_
          refine own_up (S' := T0.setTop (mkF m 106 La149 [(.int (0 : Int32)), (.int (0 : Int32))])) (fun t stp => XT.iconstV X0.here hx rfl (0 : Int32) (hb hby at_105) rfl stp) ?_
          refine own_up (S' := T0.setTop (mkF m 107 La149 [(.int ((0 : Int32) + (0 : Int32)))])) (fun t stp => XS.iadd X0.here hx rfl (hb hby at_106) rfl stp) ?_
          refine own_up (S' := T0.setTop (mkF m 109 La149 [(.int (1 : Int32)), (.int ((0 : Int32) + (0 : Int32)))])) (fun t stp => XS.iload X0.here hx rfl (hb hby at_107) (by rw [hLa149]; rfl) stp) ?_
          have hc109_152 : ¬ ((1 : Int32) = 0) := by decide
          refine own_up (S' := T0.setTop (mkF m 112 La149 [(.int ((0 : Int32) + (0 : Int32)))])) (fun t stp => XS.ifNo X0.here hx rfl (hb hby at_109) rfl (XT.i0_eq_f hc109_152) stp) ?_
          refine own_up (S' := T0.setTop (mkF m 113 La149 [(.int (1 : Int32)), (.int ((0 : Int32) + (0 : Int32)))])) (fun t stp => XT.iconstV X0.here hx rfl (1 : Int32) (hb hby at_112) rfl stp) ?_
          refine own_up (S' := T0.setTop (mkF m 117 La149 [(.int (1 : Int32)), (.int ((0 : Int32) + (0 : Int32)))])) (fun t stp => XS.goto X0.here hx rfl (pc0 := 113) (pc' := 117) rfl (hb hby at_113) (by decide) (by decide) stp) ?_
          refine own_up (S' := T0.setTop (mkF m 118 La149 [(.int (((0 : Int32) + (0 : Int32)) + (1 : Int32)))])) (fun t stp => XS.iadd X0.here hx rfl (hb hby at_117) rfl stp) ?_
          refine own_up (S' := T0.setTop (mkF m 120 La149 [(.int (0 : Int32)), (.int (((0 : Int32) + (0 : Int32)) + (1 : Int32)))])) (fun t stp => XS.iload X0.here hx rfl (hb hby at_118) (by rw [hLa149]; rfl) stp) ?_
          have hc120_153 : (0 : Int32) = 0 := hc88_150
          refine own_up (S' := T0.setTop (mkF m 127 La149 [(.int (((0 : Int32) + (0 : Int32)) + (1 : Int32)))])) (fun t stp => XS.ifYes X0.here hx rfl (pc0 := 120) (pc' := 127) rfl (hb hby at_120) rfl (XT.i0_eq_t hc120_153) (by decide) (by decide) stp) ?_
          refine own_up (S' := T0.setTop (mkF m 128 La149 [(.int (0 : Int32)), (.int (((0 : Int32) + (0 : Int32)) + (1 : Int32)))])) (fun t stp => XT.iconstV X0.here hx rfl (0 : Int32) (hb hby at_127) rfl stp) ?_
          refine own_up (S' := T0.setTop (mkF m 129 La149 [(.int ((((0 : Int32) + (0 : Int32)) + (1 : Int32)) + (0 : Int32)))])) (fun t stp => XS.iadd X0.here hx rfl (hb hby at_128) rfl stp) ?_
          show own_Ends p e below s (own_Q0 Z l0 l1 l2 u0 u1 sel h0 n0) room_1.cells room_1.slots (T0.setTop (mkF m 129 La149 [(.int (1 : Int32))]))
          obtain ⟨La154, hLa154⟩ : ∃ L : Array Slot, L = #[.val (.long l0), .second, .val (.long l1), .second, .val (.long l2), .second, .val (.long u0), .second, .val (.long u1), .second, .val (.int sel), .val (.int mm), .val (.int (0 : Int32)), .val (.int (0 : Int32)), .val (.int (1 : Int32)), .val (.int (0 : Int32)), .val (.long u0), .second, .val (.long u1), .second, .val (.long v2), .second, .val (.long v3), .second, .val (.int (1 : Int32)), .unset, .unset, .unset, .unset, .unset, .unset, .unset, .unset, .unset, .unset, .unset, .unset, .unset, .unset, .unset] := ⟨_, rfl⟩
          refine own_up (S' := T0.setTop (mkF m 131 La154 [])) (fun t stp => XS.istore X0.here hx rfl (hb hby at_129) rfl (l' := La154) (by rw [hLa149, hLa154]; rfl) stp) ?_
          refine own_up (S' := T0.setTop (mkF m 133 La154 [(.int (1 : Int32))])) (fun t stp => XS.iload X0.here hx rfl (hb hby at_131) (by rw [hLa154]; rfl) stp) ?_
          refine own_newa X0 hx hZ (ty := .int) rfl (hw _ (List.mem_of_getElem? (i := 0) rfl)) e0 1 (hb hby at_133) (rfl) 1 (by decide) (by decide) (by decide) (by decide) rfl rfl ?_
          intro T155 h155 ad155 hb155 X155 e155 E155 A155
          have g_ad155 : n0 ≤ ad155 := Nat.le_trans Z0 (Nat.le_of_eq hb155.symm)
          have Zn156 := Nat.le_trans Z0 E155.1
          have Al155 : own_Al Z h155 ad155 .int [(.int (0 : Int32))] := A155
          show own_Ends p e below s (own_Q0 Z l0 l1 l2 u0 u1 sel h0 n0) room_1.cells room_1.slots (T155.setTop (mkF m 135 La154 [(.ref ad155)]))
          obtain ⟨La158, hLa158⟩ : ∃ L : Array Slot, L = #[.val (.long l0), .second, .val (.long l1), .second, .val (.long l2), .second, .val (.long u0), .second, .val (.long u1), .second, .val (.int sel), .val (.int mm), .val (.int (0 : Int32)), .val (.int (0 : Int32)), .val (.int (1 : Int32)), .val (.int (0 : Int32)), .val (.long u0), .second, .val (.long u1), .second, .val (.long v2), .second, .val (.long v3), .second, .val (.int (1 : Int32)), .val (.ref ad155), .unset, .unset, .unset, .unset, .unset, .unset, .unset, .unset, .unset, .unset, .unset, .unset, .unset, .unset] := ⟨_, rfl⟩
          refine own_up (S' := T155.setTop (mkF m 137 La158 [])) (fun t stp => XS.astore X155.here hx rfl (hb hby at_135) rfl rfl (l' := La158) (by rw [hLa154, hLa158]; rfl) stp) ?_
          refine own_up (S' := T155.setTop (mkF m 139 La158 [(.int (1 : Int32))])) (fun t stp => XS.iload X155.here hx rfl (hb hby at_137) (by rw [hLa158]; rfl) stp) ?_
          refine own_newa X155 hx hZ (ty := .long) rfl (hw _ (List.mem_of_getElem? (i := 1) rfl)) e155 1 (hb hby at_139) (rfl) 1 (by decide) (by decide) (by decide) (by decide) rfl rfl ?_
          intro T159 h159 ad159 hb159 X159 e159 E159 A159
          have ne159_ad155_ad159 : ad155 ≠ ad159 := Nat.ne_of_lt (Nat.lt_of_lt_of_eq (own_Al_lt Al155) hb159.symm)
          have g_ad159 : n0 ≤ ad159 := Nat.le_trans Zn156 (Nat.le_of_eq hb159.symm)
          have Zn160 := Nat.le_trans Zn156 E159.1
          have Al155_161 := own_Al_ext E159 Al155
          have Al159 : own_Al Z h159 ad159 .long [(.long (0 : Int64))] := A159
          show own_Ends p e below s (own_Q0 Z l0 l1 l2 u0 u1 sel h0 n0) room_1.cells room_1.slots (T159.setTop (mkF m 141 La158 [(.ref ad159)]))
          obtain ⟨La162, hLa162⟩ : ∃ L : Array Slot, L = #[.val (.long l0), .second, .val (.long l1), .second, .val (.long l2), .second, .val (.long u0), .second, .val (.long u1), .second, .val (.int sel), .val (.int mm), .val (.int (0 : Int32)), .val (.int (0 : Int32)), .val (.int (1 : Int32)), .val (.int (0 : Int32)), .val (.long u0), .second, .val (.long u1), .second, .val (.long v2), .second, .val (.long v3), .second, .val (.int (1 : Int32)), .val (.ref ad155), .val (.ref ad159), .unset, .unset, .unset, .unset, .unset, .unset, .unset, .unset, .unset, .unset, .unset, .unset, .unset] := ⟨_, rfl⟩
          refine own_up (S' := T159.setTop (mkF m 143 La162 [])) (fun t stp => XS.astore X159.here hx rfl (hb hby at_141) rfl rfl (l' := La162) (by rw [hLa158, hLa162]; rfl) stp) ?_
          refine own_up (S' := T159.setTop (mkF m 144 La162 [(.int (0 : Int32))])) (fun t stp => XT.iconstV X159.here hx rfl (0 : Int32) (hb hby at_143) rfl stp) ?_
          obtain ⟨La163, hLa163⟩ : ∃ L : Array Slot, L = #[.val (.long l0), .second, .val (.long l1), .second, .val (.long l2), .second, .val (.long u0), .second, .val (.long u1), .second, .val (.int sel), .val (.int mm), .val (.int (0 : Int32)), .val (.int (0 : Int32)), .val (.int (1 : Int32)), .val (.int (0 : Int32)), .val (.long u0), .second, .val (.long u1), .second, .val (.long v2), .second, .val (.long v3), .second, .val (.int (1 : Int32)), .val (.ref ad155), .val (.ref ad159), .val (.int (0 : Int32)), .unset, .unset, .unset, .unset, .unset, .unset, .unset, .unset, .unset, .unset, .unset, .unset] := ⟨_, rfl⟩
          refine own_up (S' := T159.setTop (mkF m 146 La163 [])) (fun t stp => XS.istore X159.here hx rfl (hb hby at_144) rfl (l' := La163) (by rw [hLa162, hLa163]; rfl) stp) ?_
          refine own_up (S' := T159.setTop (mkF m 148 La163 [(.int (0 : Int32))])) (fun t stp => XS.iload X159.here hx rfl (hb hby at_146) (by rw [hLa163]; rfl) stp) ?_
          have hc148_164 : (0 : Int32) = 0 := hc88_150
          refine own_up (S' := T159.setTop (mkF m 167 La163 [])) (fun t stp => XS.ifYes X159.here hx rfl (pc0 := 148) (pc' := 167) rfl (hb hby at_148) rfl (XT.i0_eq_t hc148_164) (by decide) (by decide) stp) ?_
          refine own_up (S' := T159.setTop (mkF m 169 La163 [(.int (0 : Int32))])) (fun t stp => XS.iload X159.here hx rfl (hb hby at_167) (by rw [hLa163]; rfl) stp) ?_
          have hc169_165 : (0 : Int32) = 0 := hc88_150
          refine own_up (S' := T159.setTop (mkF m 188 La163 [])) (fun t stp => XS.ifYes X159.here hx rfl (pc0 := 169) (pc' := 188) rfl (hb hby at_169) rfl (XT.i0_eq_t hc169_165) (by decide) (by decide) stp) ?_
          refine own_up (S' := T159.setTop (mkF m 190 La163 [(.int (1 : Int32))])) (fun t stp => XS.iload X159.here hx rfl (hb hby at_188) (by rw [hLa163]; rfl) stp) ?_
          have hc190_166 : ¬ ((1 : Int32) = 0) := hc109_152
          refine own_up (S' := T159.setTop (mkF m 193 La163 [])) (fun t stp => XS.ifNo X159.here hx rfl (hb hby at_190) rfl (XT.i0_eq_f hc190_166) stp) ?_
          refine own_up (S' := T159.setTop (mkF m 195 La163 [(.ref ad155)])) (fun t stp => XS.aload X159.here hx rfl (hb hby at_193) (by rw [hLa163]; rfl) rfl stp) ?_
          refine own_up (S' := T159.setTop (mkF m 197 La163 [(.int (0 : Int32)), (.ref ad155)])) (fun t stp => XS.iload X159.here hx rfl (hb hby at_195) (by rw [hLa163]; rfl) stp) ?_
          refine own_up (S' := T159.setTop (mkF m 198 La163 [(.int (2 : Int32)), (.int (0 : Int32)), (.ref ad155)])) (fun t stp => XT.iconstV X159.here hx rfl (2 : Int32) (hb hby at_197) rfl stp) ?_
          refine own_sti X159 hx hZ e159 Al155_161 0 (hb hby at_198) (rfl) (Nat.le_of_ble_eq_true rfl) rfl rfl (g' := (mkF m 199 La163 [])) rfl ?_
          intro T167 h167 X167 e167 W167 B167
          have Zn168 := Nat.le_trans Zn160 (Nat.le_of_eq W167.size.symm)
          have Al159_169 := own_Al_oth W167 Al159 (Ne.symm ne159_ad155_ad159)
          have N167 := Fr.snoc X167 N0 g_ad155
          have Al167 : own_Al Z h167 ad155 .int [(.int (2 : Int32))] := B167
          refine own_up (S' := T167.setTop (mkF m 201 La163 [(.ref ad159)])) (fun t stp => XS.aload X167.here hx rfl (hb hby at_199) (by rw [hLa163]; rfl) rfl stp) ?_
          refine own_up (S' := T167.setTop (mkF m 203 La163 [(.int (0 : Int32)), (.ref ad159)])) (fun t stp => XS.iload X167.here hx rfl (hb hby at_201) (by rw [hLa163]; rfl) stp) ?_
          refine own_up (S' := T167.setTop (mkF m 205 La163 [(.long v2), (.int (0 : Int32)), (.ref ad159)])) (fun t stp => XT.lload X167.here hx rfl (hb hby at_203) (by rw [hLa163]; rfl) stp) ?_
          refine own_stj X167 hx hZ e167 Al159_169 0 (hb hby at_205) (rfl) (Nat.le_of_ble_eq_true rfl) rfl rfl (g' := (mkF m 206 La163 [])) rfl ?_
          intro T170 h170 X170 e170 W170 B170
          have Zn171 := Nat.le_trans Zn168 (Nat.le_of_eq W170.size.symm)
          have Al167_172 := own_Al_oth W170 Al167 ne159_ad155_ad159
          have N170 := Fr.snoc X170 N167 g_ad159
          have Al170 : own_Al Z h170 ad159 .long [(.long v2)] := B170
          obtain ⟨La173, hLa173⟩ : ∃ L : Array Slot, L = #[.val (.long l0), .second, .val (.long l1), .second, .val (.long l2), .second, .val (.long u0), .second, .val (.long u1), .second, .val (.int sel), .val (.int mm), .val (.int (0 : Int32)), .val (.int (0 : Int32)), .val (.int (1 : Int32)), .val (.int (0 : Int32)), .val (.long u0), .second, .val (.long u1), .second, .val (.long v2), .second, .val (.long v3), .second, .val (.int (1 : Int32)), .val (.ref ad155), .val (.ref ad159), .val (.int (1 : Int32)), .unset, .unset, .unset, .unset, .unset, .unset, .unset, .unset, .unset, .unset, .unset, .unset] := ⟨_, rfl⟩
          refine own_up (S' := T170.setTop (mkF m 209 La173 [])) (fun t stp => XT.iincV X170.here hx rfl (1 : Int32) (hb hby at_206) rfl (by rw [hLa163]; rfl) (l' := La173) (by rw [hLa163, hLa173]; rfl) stp) ?_
          refine own_up (S' := T170.setTop (mkF m 211 La173 [(.int (0 : Int32))])) (fun t stp => XS.iload X170.here hx rfl (hb hby at_209) (by rw [hLa173]; rfl) stp) ?_
          have hc211_174 : (0 : Int32) = 0 := hc88_150
          refine own_up (S' := T170.setTop (mkF m 230 La173 [])) (fun t stp => XS.ifYes X170.here hx rfl (pc0 := 211) (pc' := 230) rfl (hb hby at_211) rfl (XT.i0_eq_t hc211_174) (by decide) (by decide) stp) ?_
          refine own_up (S' := T170.setTop (mkF m 231 La173 [(.long l0)])) (fun t stp => XT.lloadN X170.here hx rfl (hb hby at_230) (by rw [hLa173]; rfl) stp) ?_
          refine own_up (S' := T170.setTop (mkF m 232 La173 [(.long l1), (.long l0)])) (fun t stp => XT.lloadN X170.here hx rfl (hb hby at_231) (by rw [hLa173]; rfl) stp) ?_
          refine own_up (S' := T170.setTop (mkF m 233 La173 [(.long (l0 ^^^ l1))])) (fun t stp => XT.lxor X170.here hx rfl (hb hby at_232) rfl stp) ?_
          obtain ⟨l3, h_l3⟩ : ∃ z : Int64, z = (l0 ^^^ l1) := ⟨_, rfl⟩
          rw [← h_l3]
          obtain ⟨La175, hLa175⟩ : ∃ L : Array Slot, L = #[.val (.long l0), .second, .val (.long l1), .second, .val (.long l2), .second, .val (.long u0), .second, .val (.long u1), .second, .val (.int sel), .val (.int mm), .val (.int (0 : Int32)), .val (.int (0 : Int32)), .val (.int (1 : Int32)), .val (.int (0 : Int32)), .val (.long u0), .second, .val (.long u1), .second, .val (.long v2), .second, .val (.long v3), .second, .val (.int (1 : Int32)), .val (.ref ad155), .val (.ref ad159), .val (.int (1 : Int32)), .val (.long l3), .second, .unset, .unset, .unset, .unset, .unset, .unset, .unset, .unset, .unset, .unset] := ⟨_, rfl⟩
          refine own_up (S' := T170.setTop (mkF m 235 La175 [])) (fun t stp => XT.lstore X170.here hx rfl (hb hby at_233) rfl (l' := La175) (by rw [hLa173, hLa175]; rfl) stp) ?_
          refine own_up (S' := T170.setTop (mkF m 236 La175 [(.int (4 : Int32))])) (fun t stp => XT.iconstV X170.here hx rfl (4 : Int32) (hb hby at_235) rfl stp) ?_
          refine own_newa X170 hx hZ (ty := .long) rfl (hw _ (List.mem_of_getElem? (i := 1) rfl)) e170 4 (hb hby at_236) (rfl) 4 (by decide) (by decide) (by decide) (by decide) rfl rfl ?_
          intro T176 h176 ad176 hb176 X176 e176 E176 A176
          have ne176_ad155_ad176 : ad155 ≠ ad176 := Nat.ne_of_lt (Nat.lt_of_lt_of_eq (own_Al_lt Al167_172) hb176.symm)
          have ne176_ad159_ad176 : ad159 ≠ ad176 := Nat.ne_of_lt (Nat.lt_of_lt_of_eq (own_Al_lt Al170) hb176.symm)
          have g_ad176 : n0 ≤ ad176 := Nat.le_trans Zn171 (Nat.le_of_eq hb176.symm)
          have Zn177 := Nat.le_trans Zn171 E176.1
          have Al167_178 := own_Al_ext E176 Al167_172
          have Al170_178 := own_Al_ext E176 Al170
          have Al176 : own_Al Z h176 ad176 .long [(.long (0 : Int64)), (.long (0 : Int64)), (.long (0 : Int64)), (.long (0 : Int64))] := A176
          show own_Ends p e below s (own_Q0 Z l0 l1 l2 u0 u1 sel h0 n0) room_1.cells room_1.slots (T176.setTop (mkF m 238 La175 [(.ref ad176)]))
          refine own_up (S' := T176.setTop (mkF m 239 La175 [(.ref ad176), (.ref ad176)])) (fun t stp => XS.dup X176.here hx rfl (hb hby at_238) rfl rfl stp) ?_
          refine own_up (S' := T176.setTop (mkF m 240 La175 [(.int (0 : Int32)), (.ref ad176), (.ref ad176)])) (fun t stp => XT.iconstV X176.here hx rfl (0 : Int32) (hb hby at_239) rfl stp) ?_
          refine own_up (S' := T176.setTop (mkF m 241 La175 [(.long l0), (.int (0 : Int32)), (.ref ad176), (.ref ad176)])) (fun t stp => XT.lloadN X176.here hx rfl (hb hby at_240) (by rw [hLa175]; rfl) stp) ?_
          refine own_stj X176 hx hZ e176 Al176 0 (hb hby at_241) (rfl) (Nat.le_of_ble_eq_true rfl) rfl rfl (g' := (mkF m 242 La175 [(.ref ad176)])) rfl ?_
          intro T179 h179 X179 e179 W179 B179
          have Zn180 := Nat.le_trans Zn177 (Nat.le_of_eq W179.size.symm)
          have Al167_181 := own_Al_oth W179 Al167_178 ne176_ad155_ad176
          have Al170_181 := own_Al_oth W179 Al170_178 ne176_ad159_ad176
          have N179 := Fr.snoc X179 N170 g_ad176
          have Al179 : own_Al Z h179 ad176 .long [(.long l0), (.long (0 : Int64)), (.long (0 : Int64)), (.long (0 : Int64))] := B179
          refine own_up (S' := T179.setTop (mkF m 243 La175 [(.ref ad176), (.ref ad176)])) (fun t stp => XS.dup X179.here hx rfl (hb hby at_242) rfl rfl stp) ?_
          refine own_up (S' := T179.setTop (mkF m 244 La175 [(.int (1 : Int32)), (.ref ad176), (.ref ad176)])) (fun t stp => XT.iconstV X179.here hx rfl (1 : Int32) (hb hby at_243) rfl stp) ?_
          refine own_up (S' := T179.setTop (mkF m 245 La175 [(.long l1), (.int (1 : Int32)), (.ref ad176), (.ref ad176)])) (fun t stp => XT.lloadN X179.here hx rfl (hb hby at_244) (by rw [hLa175]; rfl) stp) ?_
          refine own_stj X179 hx hZ e179 Al179 1 (hb hby at_245) (rfl) (Nat.le_of_ble_eq_true rfl) rfl rfl (g' := (mkF m 246 La175 [(.ref ad176)])) rfl ?_
          intro T182 h182 X182 e182 W182 B182
          have Zn183 := Nat.le_trans Zn180 (Nat.le_of_eq W182.size.symm)
          have Al167_184 := own_Al_oth W182 Al167_181 ne176_ad155_ad176
          have Al170_184 := own_Al_oth W182 Al170_181 ne176_ad159_ad176
          have N182 := Fr.snoc X182 N179 g_ad176
          have Al182 : own_Al Z h182 ad176 .long [(.long l0), (.long l1), (.long (0 : Int64)), (.long (0 : Int64))] := B182
          refine own_up (S' := T182.setTop (mkF m 247 La175 [(.ref ad176), (.ref ad176)])) (fun t stp => XS.dup X182.here hx rfl (hb hby at_246) rfl rfl stp) ?_
          refine own_up (S' := T182.setTop (mkF m 248 La175 [(.int (2 : Int32)), (.ref ad176), (.ref ad176)])) (fun t stp => XT.iconstV X182.here hx rfl (2 : Int32) (hb hby at_247) rfl stp) ?_
          refine own_up (S' := T182.setTop (mkF m 250 La175 [(.long l2), (.int (2 : Int32)), (.ref ad176), (.ref ad176)])) (fun t stp => XT.lload X182.here hx rfl (hb hby at_248) (by rw [hLa175]; rfl) stp) ?_
          refine own_stj X182 hx hZ e182 Al182 2 (hb hby at_250) (rfl) (Nat.le_of_ble_eq_true rfl) rfl rfl (g' := (mkF m 251 La175 [(.ref ad176)])) rfl ?_
          intro T185 h185 X185 e185 W185 B185
          have Zn186 := Nat.le_trans Zn183 (Nat.le_of_eq W185.size.symm)
          have Al167_187 := own_Al_oth W185 Al167_184 ne176_ad155_ad176
          have Al170_187 := own_Al_oth W185 Al170_184 ne176_ad159_ad176
          have N185 := Fr.snoc X185 N182 g_ad176
          have Al185 : own_Al Z h185 ad176 .long [(.long l0), (.long l1), (.long l2), (.long (0 : Int64))] := B185
          refine own_up (S' := T185.setTop (mkF m 252 La175 [(.ref ad176), (.ref ad176)])) (fun t stp => XS.dup X185.here hx rfl (hb hby at_251) rfl rfl stp) ?_
          refine own_up (S' := T185.setTop (mkF m 253 La175 [(.int (3 : Int32)), (.ref ad176), (.ref ad176)])) (fun t stp => XT.iconstV X185.here hx rfl (3 : Int32) (hb hby at_252) rfl stp) ?_
          refine own_up (S' := T185.setTop (mkF m 255 La175 [(.long l3), (.int (3 : Int32)), (.ref ad176), (.ref ad176)])) (fun t stp => XT.lload X185.here hx rfl (hb hby at_253) (by rw [hLa175]; rfl) stp) ?_
          refine own_stj X185 hx hZ e185 Al185 3 (hb hby at_255) (rfl) (Nat.le_of_ble_eq_true rfl) rfl rfl (g' := (mkF m 256 La175 [(.ref ad176)])) rfl ?_
          intro T188 h188 X188 e188 W188 B188
          have Zn189 := Nat.le_trans Zn186 (Nat.le_of_eq W188.size.symm)
          have Al167_190 := own_Al_oth W188 Al167_187 ne176_ad155_ad176
          have Al170_190 := own_Al_oth W188 Al170_187 ne176_ad159_ad176
          have N188 := Fr.snoc X188 N185 g_ad176
          have Al188 : own_Al Z h188 ad176 .long [(.long l0), (.long l1), (.long l2), (.long l3)] := B188
          obtain ⟨La191, hLa191⟩ : ∃ L : Array Slot, L = #[.val (.long l0), .second, .val (.long l1), .second, .val (.long l2), .second, .val (.long u0), .second, .val (.long u1), .second, .val (.int sel), .val (.int mm), .val (.int (0 : Int32)), .val (.int (0 : Int32)), .val (.int (1 : Int32)), .val (.int (0 : Int32)), .val (.long u0), .second, .val (.long u1), .second, .val (.long v2), .second, .val (.long v3), .second, .val (.int (1 : Int32)), .val (.ref ad155), .val (.ref ad159), .val (.int (1 : Int32)), .val (.long l3), .second, .val (.ref ad176), .unset, .unset, .unset, .unset, .unset, .unset, .unset, .unset, .unset] := ⟨_, rfl⟩
          refine own_up (S' := T188.setTop (mkF m 258 La191 [])) (fun t stp => XS.astore X188.here hx rfl (hb hby at_256) rfl rfl (l' := La191) (by rw [hLa175, hLa191]; rfl) stp) ?_
          refine own_new X188 hx hZ hown (hw _ (List.mem_of_getElem? (i := 2) rfl)) (hw _ (List.mem_of_getElem? (i := 3) rfl)) (hw _ (List.mem_of_getElem? (i := 4) rfl)) e188 rfl (hb hby at_258) (by decide) (by decide) ?_
          intro T192 h192 ob hb192 X192 e192 E192 A192 D192
          have ne192_ad155_ob : ad155 ≠ ob := Nat.ne_of_lt (Nat.lt_of_lt_of_eq (own_Al_lt Al167_190) hb192.symm)
          have ne192_ad159_ob : ad159 ≠ ob := Nat.ne_of_lt (Nat.lt_of_lt_of_eq (own_Al_lt Al170_190) hb192.symm)
          have ne192_ad176_ob : ad176 ≠ ob := Nat.ne_of_lt (Nat.lt_of_lt_of_eq (own_Al_lt Al188) hb192.symm)
          have g_ob : n0 ≤ ob := Nat.le_trans Zn189 (Nat.le_of_eq hb192.symm)
          have Zn193 := Nat.le_trans Zn189 E192.1
          have Al167_194 := own_Al_ext E192 Al167_190
          have Al170_194 := own_Al_ext E192 Al170_190
          have Al188_194 := own_Al_ext E192 Al188
          have Fresources_ob : Fld Z h192 ob "com/example/outcry/outcry/combinatorial/Bundle" "resources" "[I" .null := D192 (Or.inr (hw _ (List.mem_of_getElem? (i := 17) rfl))) (ty := (.array .int)) (by decide)
          have Funits_ob : Fld Z h192 ob "com/example/outcry/outcry/combinatorial/Bundle" "units" "[J" .null := D192 (Or.inr (hw _ (List.mem_of_getElem? (i := 19) rfl))) (ty := (.array .long)) (by decide)
          show own_Ends p e below s (own_Q0 Z l0 l1 l2 u0 u1 sel h0 n0) room_1.cells room_1.slots (T192.setTop (mkF m 261 La191 [(.ref ob)]))
          refine own_up (S' := T192.setTop (mkF m 262 La191 [(.ref ob), (.ref ob)])) (fun t stp => XS.dup X192.here hx rfl (hb hby at_261) rfl rfl stp) ?_
          refine own_up (S' := T192.setTop (mkF m 264 La191 [(.ref ad155), (.ref ob), (.ref ob)])) (fun t stp => XS.aload X192.here hx rfl (hb hby at_262) (by rw [hLa191]; rfl) rfl stp) ?_
          refine own_up (S' := T192.setTop (mkF m 266 La191 [(.ref ad159), (.ref ad155), (.ref ob), (.ref ob)])) (fun t stp => XS.aload X192.here hx rfl (hb hby at_264) (by rw [hLa191]; rfl) rfl stp) ?_
          refine own_callI X192 hx hZ rfl hown (hw _ (List.mem_of_getElem? (i := 5) rfl)) (hw _ (List.mem_of_getElem? (i := 6) rfl)) (hw _ (List.mem_of_getElem? (i := 4) rfl)) (hw _ (List.mem_of_getElem? (i := 7) rfl)) (by decide) e192 (rm2 l Z a0 hw [] ob ad155 ad159 h192 n0 Zn193 Fresources_ob Funits_ob A192 g_ob) 1 ob [(.ref ad155), (.ref ad159)] [(.ref ob)] (hb hby at_266) (lenOf own_pd1 rfl) (by decide) (by decide) (by decide) (by decide) rfl (by rw [hml, hLa191]; rfl) rfl (by show 2 * 0 + _ ≤ _; exact Nat.le_of_eq rfl) rfl ?_
          intro T195 L195 r195 X195 q195
          obtain ⟨rfl, M195, K195, G195a_195, G195b_195⟩ := q195
          have N195 := Fr.app N188 M195
          have Zn196 := Nat.le_trans Zn193 K195.1
          have Al167_197 := own_Al_keep K195 Al167_194 (ninS ne192_ad155_ob nin0)
          have Al170_197 := own_Al_keep K195 Al170_194 (ninS ne192_ad159_ob nin0)
          have Al188_197 := own_Al_keep K195 Al188_194 (ninS ne192_ad176_ob nin0)
          have A192_197 := A192.keep K195
          show own_Ends p e below s (own_Q0 Z l0 l1 l2 u0 u1 sel h0 n0) room_1.cells room_1.slots (T195.setTop (mkF m 269 La191 [(.ref ob)]))
          obtain ⟨La198, hLa198⟩ : ∃ L : Array Slot, L = #[.val (.long l0), .second, .val (.long l1), .second, .val (.long l2), .second, .val (.long u0), .second, .val (.long u1), .second, .val (.int sel), .val (.int mm), .val (.int (0 : Int32)), .val (.int (0 : Int32)), .val (.int (1 : Int32)), .val (.int (0 : Int32)), .val (.long u0), .second, .val (.long u1), .second, .val (.long v2), .second, .val (.long v3), .second, .val (.int (1 : Int32)), .val (.ref ad155), .val (.ref ad159), .val (.int (1 : Int32)), .val (.long l3), .second, .val (.ref ad176), .val (.ref ob), .unset, .unset, .unset, .unset, .unset, .unset, .unset, .unset] := ⟨_, rfl⟩
          refine own_up (S' := T195.setTop (mkF m 271 La198 [])) (fun t stp => XS.astore X195.here hx rfl (hb hby at_269) rfl rfl (l' := La198) (by rw [hLa191, hLa198]; rfl) stp) ?_
          refine own_up (S' := T195.setTop (mkF m 273 La198 [(.ref ob)])) (fun t stp => XS.aload X195.here hx rfl (hb hby at_271) (by rw [hLa198]; rfl) rfl stp) ?_
          refine own_up (S' := T195.setTop (mkF m 275 La198 [(.ref ad176), (.ref ob)])) (fun t stp => XS.aload X195.here hx rfl (hb hby at_273) (by rw [hLa198]; rfl) rfl stp) ?_
          refine own_callV X195 hx hZ hown (hw _ (List.mem_of_getElem? (i := 20) rfl)) (hw _ (List.mem_of_getElem? (i := 21) rfl)) (hw _ (List.mem_of_getElem? (i := 23) rfl)) (hw _ (List.mem_of_getElem? (i := 22) rfl)) (hw _ (List.mem_of_getElem? (i := 4) rfl)) (hw _ (List.mem_of_getElem? (i := 24) rfl)) (by decide) rfl (rm11 l Z a0 hw [] ob ad176 ad155 ad159 [(.long l0), (.long l1), (.long l2), (.long l3)] (2 : Int32) v2 (2) l2 T195.heap n0 Zn196 G195a_195 G195b_195 Al167_197 Al170_197 Al188_197 g_ad176 ne176_ad155_ad176 ne176_ad159_ad176 (Ne.symm ne192_ad176_ob) (rfl) (rfl)) 0 A192_197 [(.ref ad176)] [] (hb hby at_275) (lenOf own_pd2 rfl) (by decide) (by decide) (by decide) (by decide) rfl (by rw [hml, hLa198]; rfl) rfl (by show 2 * 0 + _ ≤ _; exact Nat.le_of_eq rfl) rfl ?_
          intro T199 L199 r199 X199 q199
          obtain ⟨rfl, M199, K199, G199a_199⟩ := q199
          have N199 := Fr.app N195 M199
          have Zn200 := Nat.le_trans Zn196 K199.1
          have Al167_201 := own_Al_keep K199 Al167_197 (ninS ne176_ad155_ad176 nin0)
          have Al170_201 := own_Al_keep K199 Al170_197 (ninS ne176_ad159_ad176 nin0)
          have A192_201 := A192_197.keep K199
          have G195a_201 := G195a_195.keep K199 (ninS (Ne.symm ne192_ad176_ob) nin0)
          have G195b_201 := G195b_195.keep K199 (ninS (Ne.symm ne192_ad176_ob) nin0)
          show own_Ends p e below s (own_Q0 Z l0 l1 l2 u0 u1 sel h0 n0) room_1.cells room_1.slots (T199.setTop (mkF m 278 La198 []))
          have Tk199 : own_Al Z T199.heap ad176 .long [(.long l0), (.long l1), (.long (l2 - v2)), (.long l3)] := G199a_199
          refine own_up (S' := T199.setTop (mkF m 280 La198 [(.int (0 : Int32))])) (fun t stp => XS.iload X199.here hx rfl (hb hby at_278) (by rw [hLa198]; rfl) stp) ?_
          have hc280_202 : (0 : Int32) = 0 := hc88_150
          refine own_up (S' := T199.setTop (mkF m 290 La198 [])) (fun t stp => XS.ifYes X199.here hx rfl (pc0 := 280) (pc' := 290) rfl (hb hby at_280) rfl (XT.i0_eq_t hc280_202) (by decide) (by decide) stp) ?_
          refine own_up (S' := T199.setTop (mkF m 291 La198 [(.long l0)])) (fun t stp => XT.lloadN X199.here hx rfl (hb hby at_290) (by rw [hLa198]; rfl) stp) ?_
          obtain ⟨La203, hLa203⟩ : ∃ L : Array Slot, L = #[.val (.long l0), .second, .val (.long l1), .second, .val (.long l2), .second, .val (.long u0), .second, .val (.long u1), .second, .val (.int sel), .val (.int mm), .val (.int (0 : Int32)), .val (.int (0 : Int32)), .val (.int (1 : Int32)), .val (.int (0 : Int32)), .val (.long u0), .second, .val (.long u1), .second, .val (.long v2), .second, .val (.long v3), .second, .val (.int (1 : Int32)), .val (.ref ad155), .val (.ref ad159), .val (.int (1 : Int32)), .val (.long l3), .second, .val (.ref ad176), .val (.ref ob), .val (.long l0), .second, .unset, .unset, .unset, .unset, .unset, .unset] := ⟨_, rfl⟩
          refine own_up (S' := T199.setTop (mkF m 293 La203 [])) (fun t stp => XT.lstore X199.here hx rfl (hb hby at_291) rfl (l' := La203) (by rw [hLa198, hLa203]; rfl) stp) ?_
          refine own_up (S' := T199.setTop (mkF m 295 La203 [(.int (0 : Int32))])) (fun t stp => XS.iload X199.here hx rfl (hb hby at_293) (by rw [hLa203]; rfl) stp) ?_
          have hc295_204 : (0 : Int32) = 0 := hc88_150
          refine own_up (S' := T199.setTop (mkF m 305 La203 [])) (fun t stp => XS.ifYes X199.here hx rfl (pc0 := 295) (pc' := 305) rfl (hb hby at_295) rfl (XT.i0_eq_t hc295_204) (by decide) (by decide) stp) ?_
          refine own_up (S' := T199.setTop (mkF m 306 La203 [(.long l1)])) (fun t stp => XT.lloadN X199.here hx rfl (hb hby at_305) (by rw [hLa203]; rfl) stp) ?_
          obtain ⟨La205, hLa205⟩ : ∃ L : Array Slot, L = #[.val (.long l0), .second, .val (.long l1), .second, .val (.long l2), .second, .val (.long u0), .second, .val (.long u1), .second, .val (.int sel), .val (.int mm), .val (.int (0 : Int32)), .val (.int (0 : Int32)), .val (.int (1 : Int32)), .val (.int (0 : Int32)), .val (.long u0), .second, .val (.long u1), .second, .val (.long v2), .second, .val (.long v3), .second, .val (.int (1 : Int32)), .val (.ref ad155), .val (.ref ad159), .val (.int (1 : Int32)), .val (.long l3), .second, .val (.ref ad176), .val (.ref ob), .val (.long l0), .second, .val (.long l1), .second, .unset, .unset, .unset, .unset] := ⟨_, rfl⟩
          refine own_up (S' := T199.setTop (mkF m 308 La205 [])) (fun t stp => XT.lstore X199.here hx rfl (hb hby at_306) rfl (l' := La205) (by rw [hLa203, hLa205]; rfl) stp) ?_
          refine own_up (S' := T199.setTop (mkF m 310 La205 [(.int (1 : Int32))])) (fun t stp => XS.iload X199.here hx rfl (hb hby at_308) (by rw [hLa205]; rfl) stp) ?_
          have hc310_206 : ¬ ((1 : Int32) = 0) := hc109_152
          refine own_up (S' := T199.setTop (mkF m 313 La205 [])) (fun t stp => XS.ifNo X199.here hx rfl (hb hby at_310) rfl (XT.i0_eq_f hc310_206) stp) ?_
          refine own_up (S' := T199.setTop (mkF m 315 La205 [(.long l2)])) (fun t stp => XT.lload X199.here hx rfl (hb hby at_313) (by rw [hLa205]; rfl) stp) ?_
          refine own_up (S' := T199.setTop (mkF m 317 La205 [(.long v2), (.long l2)])) (fun t stp => XT.lload X199.here hx rfl (hb hby at_315) (by rw [hLa205]; rfl) stp) ?_
          refine own_up (S' := T199.setTop (mkF m 318 La205 [(.long (l2 - v2))])) (fun t stp => XT.lsub X199.here hx rfl (hb hby at_317) rfl stp) ?_
          refine own_up (S' := T199.setTop (mkF m 323 La205 [(.long (l2 - v2))])) (fun t stp => XS.goto X199.here hx rfl (pc0 := 318) (pc' := 323) rfl (hb hby at_318) (by decide) (by decide) stp) ?_
          obtain ⟨e2q, h_e2q⟩ : ∃ z : Int64, z = (l2 - v2) := ⟨_, rfl⟩
          rw [← h_e2q]
          obtain ⟨La207, hLa207⟩ : ∃ L : Array Slot, L = #[.val (.long l0), .second, .val (.long l1), .second, .val (.long l2), .second, .val (.long u0), .second, .val (.long u1), .second, .val (.int sel), .val (.int mm), .val (.int (0 : Int32)), .val (.int (0 : Int32)), .val (.int (1 : Int32)), .val (.int (0 : Int32)), .val (.long u0), .second, .val (.long u1), .second, .val (.long v2), .second, .val (.long v3), .second, .val (.int (1 : Int32)), .val (.ref ad155), .val (.ref ad159), .val (.int (1 : Int32)), .val (.long l3), .second, .val (.ref ad176), .val (.ref ob), .val (.long l0), .second, .val (.long l1), .second, .val (.long e2q), .second, .unset, .unset] := ⟨_, rfl⟩
          refine own_up (S' := T199.setTop (mkF m 325 La207 [])) (fun t stp => XT.lstore X199.here hx rfl (hb hby at_323) rfl (l' := La207) (by rw [hLa205, hLa207]; rfl) stp) ?_
          refine own_up (S' := T199.setTop (mkF m 327 La207 [(.int (0 : Int32))])) (fun t stp => XS.iload X199.here hx rfl (hb hby at_325) (by rw [hLa207]; rfl) stp) ?_
          have hc327_208 : (0 : Int32) = 0 := hc88_150
          refine own_up (S' := T199.setTop (mkF m 338 La207 [])) (fun t stp => XS.ifYes X199.here hx rfl (pc0 := 327) (pc' := 338) rfl (hb hby at_327) rfl (XT.i0_eq_t hc327_208) (by decide) (by decide) stp) ?_
          refine own_up (S' := T199.setTop (mkF m 340 La207 [(.long l3)])) (fun t stp => XT.lload X199.here hx rfl (hb hby at_338) (by rw [hLa207]; rfl) stp) ?_
          obtain ⟨La209, hLa209⟩ : ∃ L : Array Slot, L = #[.val (.long l0), .second, .val (.long l1), .second, .val (.long l2), .second, .val (.long u0), .second, .val (.long u1), .second, .val (.int sel), .val (.int mm), .val (.int (0 : Int32)), .val (.int (0 : Int32)), .val (.int (1 : Int32)), .val (.int (0 : Int32)), .val (.long u0), .second, .val (.long u1), .second, .val (.long v2), .second, .val (.long v3), .second, .val (.int (1 : Int32)), .val (.ref ad155), .val (.ref ad159), .val (.int (1 : Int32)), .val (.long l3), .second, .val (.ref ad176), .val (.ref ob), .val (.long l0), .second, .val (.long l1), .second, .val (.long e2q), .second, .val (.long l3), .second] := ⟨_, rfl⟩
          refine own_up (S' := T199.setTop (mkF m 342 La209 [])) (fun t stp => XT.lstore X199.here hx rfl (hb hby at_340) rfl (l' := La209) (by rw [hLa207, hLa209]; rfl) stp) ?_
          refine own_up (S' := T199.setTop (mkF m 344 La209 [(.ref ad176)])) (fun t stp => XS.aload X199.here hx rfl (hb hby at_342) (by rw [hLa209]; rfl) rfl stp) ?_
          refine own_len X199 hx hZ rfl Tk199 (4 : Int32) (hb hby at_344) (rfl) rfl rfl (g' := (mkF m 345 La209 [(.int (4 : Int32))])) rfl ?_
          refine own_up (S' := T199.setTop (mkF m 346 La209 [(.int (4 : Int32)), (.int (4 : Int32))])) (fun t stp => XT.iconstV X199.here hx rfl (4 : Int32) (hb hby at_345) rfl stp) ?_
          have hc346_210 : (4 : Int32) = (4 : Int32) := rfl
          refine own_up (S' := T199.setTop (mkF m 349 La209 [])) (fun t stp => XS.icmpNo X199.here hx rfl (hb hby at_346) rfl (XT.ii_ne_f hc346_210) stp) ?_
          refine own_up (S' := T199.setTop (mkF m 351 La209 [(.ref ad176)])) (fun t stp => XS.aload X199.here hx rfl (hb hby at_349) (by rw [hLa209]; rfl) rfl stp) ?_
          refine own_up (S' := T199.setTop (mkF m 352 La209 [(.int (0 : Int32)), (.ref ad176)])) (fun t stp => XT.iconstV X199.here hx rfl (0 : Int32) (hb hby at_351) rfl stp) ?_
          refine own_ldj X199 hx hZ rfl Tk199 (v := (.long l0)) 0 (hb hby at_352) (rfl) (rfl) rfl rfl (g' := (mkF m 353 La209 [(.long l0)])) rfl ?_
          refine own_up (S' := T199.setTop (mkF m 355 La209 [(.long l0), (.long l0)])) (fun t stp => XT.lload X199.here hx rfl (hb hby at_353) (by rw [hLa209]; rfl) stp) ?_
          refine own_up (S' := T199.setTop (mkF m 356 La209 [(.int (XT.cmpL l0 l0))])) (fun t stp => XT.lcmp X199.here hx rfl (hb hby at_355) rfl stp) ?_
          have hc356_211 : l0 = l0 := rfl
          have ihc356_211 : l0.toInt = l0.toInt := own_leq hc356_211
          refine own_up (S' := T199.setTop (mkF m 359 La209 [])) (fun t stp => XS.ifNo X199.here hx rfl (hb hby at_356) rfl (XT.ll_ne_f hc356_211) stp) ?_
          refine own_up (S' := T199.setTop (mkF m 361 La209 [(.ref ad176)])) (fun t stp => XS.aload X199.here hx rfl (hb hby at_359) (by rw [hLa209]; rfl) rfl stp) ?_
          refine own_up (S' := T199.setTop (mkF m 362 La209 [(.int (1 : Int32)), (.ref ad176)])) (fun t stp => XT.iconstV X199.here hx rfl (1 : Int32) (hb hby at_361) rfl stp) ?_
          refine own_ldj X199 hx hZ rfl Tk199 (v := (.long l1)) 1 (hb hby at_362) (rfl) (rfl) rfl rfl (g' := (mkF m 363 La209 [(.long l1)])) rfl ?_
          refine own_up (S' := T199.setTop (mkF m 365 La209 [(.long l1), (.long l1)])) (fun t stp => XT.lload X199.here hx rfl (hb hby at_363) (by rw [hLa209]; rfl) stp) ?_
          refine own_up (S' := T199.setTop (mkF m 366 La209 [(.int (XT.cmpL l1 l1))])) (fun t stp => XT.lcmp X199.here hx rfl (hb hby at_365) rfl stp) ?_
          have hc366_212 : l1 = l1 := rfl
          have ihc366_212 : l1.toInt = l1.toInt := own_leq hc366_212
          refine own_up (S' := T199.setTop (mkF m 369 La209 [])) (fun t stp => XS.ifNo X199.here hx rfl (hb hby at_366) rfl (XT.ll_ne_f hc366_212) stp) ?_
          refine own_up (S' := T199.setTop (mkF m 371 La209 [(.ref ad176)])) (fun t stp => XS.aload X199.here hx rfl (hb hby at_369) (by rw [hLa209]; rfl) rfl stp) ?_
          refine own_up (S' := T199.setTop (mkF m 372 La209 [(.int (2 : Int32)), (.ref ad176)])) (fun t stp => XT.iconstV X199.here hx rfl (2 : Int32) (hb hby at_371) rfl stp) ?_
          refine own_ldj X199 hx hZ rfl Tk199 (v := (.long (l2 - v2))) 2 (hb hby at_372) (rfl) (rfl) rfl rfl (g' := (mkF m 373 La209 [(.long (l2 - v2))])) rfl ?_
          refine own_up (S' := T199.setTop (mkF m 375 La209 [(.long e2q), (.long (l2 - v2))])) (fun t stp => XT.lload X199.here hx rfl (hb hby at_373) (by rw [hLa209]; rfl) stp) ?_
          refine own_up (S' := T199.setTop (mkF m 376 La209 [(.int (XT.cmpL (l2 - v2) e2q))])) (fun t stp => XT.lcmp X199.here hx rfl (hb hby at_375) rfl stp) ?_
          have hc376_213 : (l2 - v2) = e2q := h_e2q.symm
          have ihc376_213 : (l2 - v2).toInt = e2q.toInt := own_leq hc376_213
          refine own_up (S' := T199.setTop (mkF m 379 La209 [])) (fun t stp => XS.ifNo X199.here hx rfl (hb hby at_376) rfl (XT.ll_ne_f hc376_213) stp) ?_
          refine own_up (S' := T199.setTop (mkF m 381 La209 [(.ref ad176)])) (fun t stp => XS.aload X199.here hx rfl (hb hby at_379) (by rw [hLa209]; rfl) rfl stp) ?_
          refine own_up (S' := T199.setTop (mkF m 382 La209 [(.int (3 : Int32)), (.ref ad176)])) (fun t stp => XT.iconstV X199.here hx rfl (3 : Int32) (hb hby at_381) rfl stp) ?_
          refine own_ldj X199 hx hZ rfl Tk199 (v := (.long l3)) 3 (hb hby at_382) (rfl) (rfl) rfl rfl (g' := (mkF m 383 La209 [(.long l3)])) rfl ?_
          refine own_up (S' := T199.setTop (mkF m 385 La209 [(.long l3), (.long l3)])) (fun t stp => XT.lload X199.here hx rfl (hb hby at_383) (by rw [hLa209]; rfl) stp) ?_
          refine own_up (S' := T199.setTop (mkF m 386 La209 [(.int (XT.cmpL l3 l3))])) (fun t stp => XT.lcmp X199.here hx rfl (hb hby at_385) rfl stp) ?_
          have hc386_214 : l3 = l3 := rfl
          have ihc386_214 : l3.toInt = l3.toInt := own_leq hc386_214
          refine own_up (S' := T199.setTop (mkF m 389 La209 [])) (fun t stp => XS.ifNo X199.here hx rfl (hb hby at_386) rfl (XT.ll_ne_f hc386_214) stp) ?_
          refine own_up (S' := T199.setTop (mkF m 390 La209 [(.int (1 : Int32))])) (fun t stp => XT.iconstV X199.here hx rfl (1 : Int32) (hb hby at_389) rfl stp) ?_
          refine own_up (S' := T199.setTop (mkF m 394 La209 [(.int (1 : Int32))])) (fun t stp => XS.goto X199.here hx rfl (pc0 := 390) (pc' := 394) rfl (hb hby at_390) (by decide) (by decide) stp) ?_
          refine own_retN X199 hx hlk (t := .boolean) hret (by simp) (z' := (1 : Int32)) rfl (hb hby at_394) (by decide) (by decide) ?_
          show own_Q0 Z l0 l1 l2 u0 u1 sel h0 n0 _ T199.heap _
          exact ⟨rfl, N199⟩
        · have ihc54_144 : (mm &&& (8 : Int32)).toInt ≠ 0 := own_ine hc54_144
          refine own_up (S' := T0.setTop (mkF m 57 La143 [])) (fun t stp => XS.ifNo X0.here hx rfl (hb hby at_54) rfl (XT.i0_eq_f hc54_144) stp) ?_
          refine own_up (S' := T0.setTop (mkF m 58 La143 [(.int (1 : Int32))])) (fun t stp => XT.iconstV X0.here hx rfl (1 : Int32) (hb hby at_57) rfl stp) ?_
          refine own_up (S' := T0.setTop (mkF m 62 La143 [(.int (1 : Int32))])) (fun t stp => XS.goto X0.here hx rfl (pc0 := 58) (pc' := 62) rfl (hb hby at_58) (by decide) (by decide) stp) ?_
          obtain ⟨La215, hLa215⟩ : ∃ L : Array Slot, L = #[.val (.long l0), .second, .val (.long l1), .second, .val (.long l2), .second, .val (.long u0), .second, .val (.long u1), .second, .val (.int sel), .val (.int mm), .val (.int (0 : Int32)), .val (.int (0 : Int32)), .val (.int (1 : Int32)), .val (.int (1 : Int32)), .unset, .unset, .unset, .unset, .unset, .unset, .unset, .unset, .unset, .unset, .unset, .unset, .unset, .unset, .unset, .unset, .unset, .unset, .unset, .unset, .unset, .unset, .unset, .unset] := ⟨_, rfl⟩
          refine own_up (S' := T0.setTop (mkF m 64 La215 [])) (fun t stp => XS.istore X0.here hx rfl (hb hby at_62) rfl (l' := La215) (by rw [hLa143, hLa215]; rfl) stp) ?_
          refine own_up (S' := T0.setTop (mkF m 66 La215 [(.long u0)])) (fun t stp => XT.lload X0.here hx rfl (hb hby at_64) (by rw [hLa215]; rfl) stp) ?_
          obtain ⟨La216, hLa216⟩ : ∃ L : Array Slot, L = #[.val (.long l0), .second, .val (.long l1), .second, .val (.long l2), .second, .val (.long u0), .second, .val (.long u1), .second, .val (.int sel), .val (.int mm), .val (.int (0 : Int32)), .val (.int (0 : Int32)), .val (.int (1 : Int32)), .val (.int (1 : Int32)), .val (.long u0), .second, .unset, .unset, .unset, .unset, .unset, .unset, .unset, .unset, .unset, .unset, .unset, .unset, .unset, .unset, .unset, .unset, .unset, .unset, .unset, .unset, .unset, .unset] := ⟨_, rfl⟩
          refine own_up (S' := T0.setTop (mkF m 68 La216 [])) (fun t stp => XT.lstore X0.here hx rfl (hb hby at_66) rfl (l' := La216) (by rw [hLa215, hLa216]; rfl) stp) ?_
          refine own_up (S' := T0.setTop (mkF m 70 La216 [(.long u1)])) (fun t stp => XT.lload X0.here hx rfl (hb hby at_68) (by rw [hLa216]; rfl) stp) ?_
          obtain ⟨La217, hLa217⟩ : ∃ L : Array Slot, L = #[.val (.long l0), .second, .val (.long l1), .second, .val (.long l2), .second, .val (.long u0), .second, .val (.long u1), .second, .val (.int sel), .val (.int mm), .val (.int (0 : Int32)), .val (.int (0 : Int32)), .val (.int (1 : Int32)), .val (.int (1 : Int32)), .val (.long u0), .second, .val (.long u1), .second, .unset, .unset, .unset, .unset, .unset, .unset, .unset, .unset, .unset, .unset, .unset, .unset, .unset, .unset, .unset, .unset, .unset, .unset, .unset, .unset] := ⟨_, rfl⟩
          refine own_up (S' := T0.setTop (mkF m 72 La217 [])) (fun t stp => XT.lstore X0.here hx rfl (hb hby at_70) rfl (l' := La217) (by rw [hLa216, hLa217]; rfl) stp) ?_
          refine own_up (S' := T0.setTop (mkF m 74 La217 [(.long u0)])) (fun t stp => XT.lload X0.here hx rfl (hb hby at_72) (by rw [hLa217]; rfl) stp) ?_
          refine own_up (S' := T0.setTop (mkF m 76 La217 [(.long u1), (.long u0)])) (fun t stp => XT.lload X0.here hx rfl (hb hby at_74) (by rw [hLa217]; rfl) stp) ?_
          refine own_up (S' := T0.setTop (mkF m 77 La217 [(.long (u0 - u1))])) (fun t stp => XT.lsub X0.here hx rfl (hb hby at_76) rfl stp) ?_
          obtain ⟨v2, h_v2⟩ : ∃ z : Int64, z = (u0 - u1) := ⟨_, rfl⟩
          rw [← h_v2]
          obtain ⟨La218, hLa218⟩ : ∃ L : Array Slot, L = #[.val (.long l0), .second, .val (.long l1), .second, .val (.long l2), .second, .val (.long u0), .second, .val (.long u1), .second, .val (.int sel), .val (.int mm), .val (.int (0 : Int32)), .val (.int (0 : Int32)), .val (.int (1 : Int32)), .val (.int (1 : Int32)), .val (.long u0), .second, .val (.long u1), .second, .val (.long v2), .second, .unset, .unset, .unset, .unset, .unset, .unset, .unset, .unset, .unset, .unset, .unset, .unset, .unset, .unset, .unset, .unset, .unset, .unset] := ⟨_, rfl⟩
          refine own_up (S' := T0.setTop (mkF m 79 La218 [])) (fun t stp => XT.lstore X0.here hx rfl (hb hby at_77) rfl (l' := La218) (by rw [hLa217, hLa218]; rfl) stp) ?_
          refine own_up (S' := T0.setTop (mkF m 81 La218 [(.long u1)])) (fun t stp => XT.lload X0.here hx rfl (hb hby at_79) (by rw [hLa218]; rfl) stp) ?_
          refine own_up (S' := T0.setTop (mkF m 83 La218 [(.long l2), (.long u1)])) (fun t stp => XT.lload X0.here hx rfl (hb hby at_81) (by rw [hLa218]; rfl) stp) ?_
          refine own_up (S' := T0.setTop (mkF m 84 La218 [(.long (u1 ^^^ l2))])) (fun t stp => XT.lxor X0.here hx rfl (hb hby at_83) rfl stp) ?_
          obtain ⟨v3, h_v3⟩ : ∃ z : Int64, z = (u1 ^^^ l2) := ⟨_, rfl⟩
          rw [← h_v3]
          obtain ⟨La219, hLa219⟩ : ∃ L : Array Slot, L = #[.val (.long l0), .second, .val (.long l1), .second, .val (.long l2), .second, .val (.long u0), .second, .val (.long u1), .second, .val (.int sel), .val (.int mm), .val (.int (0 : Int32)), .val (.int (0 : Int32)), .val (.int (1 : Int32)), .val (.int (1 : Int32)), .val (.long u0), .second, .val (.long u1), .second, .val (.long v2), .second, .val (.long v3), .second, .unset, .unset, .unset, .unset, .unset, .unset, .unset, .unset, .unset, .unset, .unset, .unset, .unset, .unset, .unset, .unset] := ⟨_, rfl⟩
          refine own_up (S' := T0.setTop (mkF m 86 La219 [])) (fun t stp => XT.lstore X0.here hx rfl (hb hby at_84) rfl (l' := La219) (by rw [hLa218, hLa219]; rfl) stp) ?_
          refine own_up (S' := T0.setTop (mkF m 88 La219 [(.int (0 : Int32))])) (fun t stp => XS.iload X0.here hx rfl (hb hby at_86) (by rw [hLa219]; rfl) stp) ?_
          have hc88_220 : (0 : Int32) = 0 := by decide
          refine own_up (S' := T0.setTop (mkF m 95 La219 [])) (fun t stp => XS.ifYes X0.here hx rfl (pc0 := 88) (pc' := 95) rfl (hb hby at_88) rfl (XT.i0_eq_t hc88_220) (by decide) (by decide) stp) ?_
          refine own_up (S' := T0.setTop (mkF m 96 La219 [(.int (0 : Int32))])) (fun t stp => XT.iconstV X0.here hx rfl (0 : Int32) (hb hby at_95) rfl stp) ?_
          refine own_up (S' := T0.setTop (mkF m 98 La219 [(.int (0 : Int32)), (.int (0 : Int32))])) (fun t stp => XS.iload X0.here hx rfl (hb hby at_96) (by rw [hLa219]; rfl) stp) ?_
          have hc98_221 : (0 : Int32) = 0 := hc88_220
          refine own_up (S' := T0.setTop (mkF m 105 La219 [(.int (0 : Int32))])) (fun t stp => XS.ifYes X0.here hx rfl (pc0 := 98) (pc' := 105) rfl (hb hby at_98) rfl (XT.i0_eq_t hc98_221) (by decide) (by decide) stp) ?_
          refine own_up (S' := T0.setTop (mkF m 106 La219 [(.int (0 : Int32)), (.int (0 : Int32))])) (fun t stp => XT.iconstV X0.here hx rfl (0 : Int32) (hb hby at_105) rfl stp) ?_
          refine own_up (S' := T0.setTop (mkF m 107 La219 [(.int ((0 : Int32) + (0 : Int32)))])) (fun t stp => XS.iadd X0.here hx rfl (hb hby at_106) rfl stp) ?_
          refine own_up (S' := T0.setTop (mkF m 109 La219 [(.int (1 : Int32)), (.int ((0 : Int32) + (0 : Int32)))])) (fun t stp => XS.iload X0.here hx rfl (hb hby at_107) (by rw [hLa219]; rfl) stp) ?_
          have hc109_222 : ¬ ((1 : Int32) = 0) := by decide
          refine own_up (S' := T0.setTop (mkF m 112 La219 [(.int ((0 : Int32) + (0 : Int32)))])) (fun t stp => XS.ifNo X0.here hx rfl (hb hby at_109) rfl (XT.i0_eq_f hc109_222) stp) ?_
          refine own_up (S' := T0.setTop (mkF m 113 La219 [(.int (1 : Int32)), (.int ((0 : Int32) + (0 : Int32)))])) (fun t stp => XT.iconstV X0.here hx rfl (1 : Int32) (hb hby at_112) rfl stp) ?_
          refine own_up (S' := T0.setTop (mkF m 117 La219 [(.int (1 : Int32)), (.int ((0 : Int32) + (0 : Int32)))])) (fun t stp => XS.goto X0.here hx rfl (pc0 := 113) (pc' := 117) rfl (hb hby at_113) (by decide) (by decide) stp) ?_
          refine own_up (S' := T0.setTop (mkF m 118 La219 [(.int (((0 : Int32) + (0 : Int32)) + (1 : Int32)))])) (fun t stp => XS.iadd X0.here hx rfl (hb hby at_117) rfl stp) ?_
          refine own_up (S' := T0.setTop (mkF m 120 La219 [(.int (1 : Int32)), (.int (((0 : Int32) + (0 : Int32)) + (1 : Int32)))])) (fun t stp => XS.iload X0.here hx rfl (hb hby at_118) (by rw [hLa219]; rfl) stp) ?_
          have hc120_223 : ¬ ((1 : Int32) = 0) := hc109_222
          refine own_up (S' := T0.setTop (mkF m 123 La219 [(.int (((0 : Int32) + (0 : Int32)) + (1 : Int32)))])) (fun t stp => XS.ifNo X0.here hx rfl (hb hby at_120) rfl (XT.i0_eq_f hc120_223) stp) ?_
          refine own_up (S' := T0.setTop (mkF m 124 La219 [(.int (1 : Int32)), (.int (((0 : Int32) + (0 : Int32)) + (1 : Int32)))])) (fun t stp => XT.iconstV X0.here hx rfl (1 : Int32) (hb hby at_123) rfl stp) ?_
          refine own_up (S' := T0.setTop (mkF m 128 La219 [(.int (1 : Int32)), (.int (((0 : Int32) + (0 : Int32)) + (1 : Int32)))])) (fun t stp => XS.goto X0.here hx rfl (pc0 := 124) (pc' := 128) rfl (hb hby at_124) (by decide) (by decide) stp) ?_
          refine own_up (S' := T0.setTop (mkF m 129 La219 [(.int ((((0 : Int32) + (0 : Int32)) + (1 : Int32)) + (1 : Int32)))])) (fun t stp => XS.iadd X0.here hx rfl (hb hby at_128) rfl stp) ?_
          show own_Ends p e below s (own_Q0 Z l0 l1 l2 u0 u1 sel h0 n0) room_1.cells room_1.slots (T0.setTop (mkF m 129 La219 [(.int (2 : Int32))]))
          obtain ⟨La224, hLa224⟩ : ∃ L : Array Slot, L = #[.val (.long l0), .second, .val (.long l1), .second, .val (.long l2), .second, .val (.long u0), .second, .val (.long u1), .second, .val (.int sel), .val (.int mm), .val (.int (0 : Int32)), .val (.int (0 : Int32)), .val (.int (1 : Int32)), .val (.int (1 : Int32)), .val (.long u0), .second, .val (.long u1), .second, .val (.long v2), .second, .val (.long v3), .second, .val (.int (2 : Int32)), .unset, .unset, .unset, .unset, .unset, .unset, .unset, .unset, .unset, .unset, .unset, .unset, .unset, .unset, .unset] := ⟨_, rfl⟩
          refine own_up (S' := T0.setTop (mkF m 131 La224 [])) (fun t stp => XS.istore X0.here hx rfl (hb hby at_129) rfl (l' := La224) (by rw [hLa219, hLa224]; rfl) stp) ?_
          refine own_up (S' := T0.setTop (mkF m 133 La224 [(.int (2 : Int32))])) (fun t stp => XS.iload X0.here hx rfl (hb hby at_131) (by rw [hLa224]; rfl) stp) ?_
          refine own_newa X0 hx hZ (ty := .int) rfl (hw _ (List.mem_of_getElem? (i := 0) rfl)) e0 2 (hb hby at_133) (rfl) 2 (by decide) (by decide) (by decide) (by decide) rfl rfl ?_
          intro T225 h225 ad225 hb225 X225 e225 E225 A225
          have g_ad225 : n0 ≤ ad225 := Nat.le_trans Z0 (Nat.le_of_eq hb225.symm)
          have Zn226 := Nat.le_trans Z0 E225.1
          have Al225 : own_Al Z h225 ad225 .int [(.int (0 : Int32)), (.int (0 : Int32))] := A225
          show own_Ends p e below s (own_Q0 Z l0 l1 l2 u0 u1 sel h0 n0) room_1.cells room_1.slots (T225.setTop (mkF m 135 La224 [(.ref ad225)]))
          obtain ⟨La228, hLa228⟩ : ∃ L : Array Slot, L = #[.val (.long l0), .second, .val (.long l1), .second, .val (.long l2), .second, .val (.long u0), .second, .val (.long u1), .second, .val (.int sel), .val (.int mm), .val (.int (0 : Int32)), .val (.int (0 : Int32)), .val (.int (1 : Int32)), .val (.int (1 : Int32)), .val (.long u0), .second, .val (.long u1), .second, .val (.long v2), .second, .val (.long v3), .second, .val (.int (2 : Int32)), .val (.ref ad225), .unset, .unset, .unset, .unset, .unset, .unset, .unset, .unset, .unset, .unset, .unset, .unset, .unset, .unset] := ⟨_, rfl⟩
          refine own_up (S' := T225.setTop (mkF m 137 La228 [])) (fun t stp => XS.astore X225.here hx rfl (hb hby at_135) rfl rfl (l' := La228) (by rw [hLa224, hLa228]; rfl) stp) ?_
          refine own_up (S' := T225.setTop (mkF m 139 La228 [(.int (2 : Int32))])) (fun t stp => XS.iload X225.here hx rfl (hb hby at_137) (by rw [hLa228]; rfl) stp) ?_
          refine own_newa X225 hx hZ (ty := .long) rfl (hw _ (List.mem_of_getElem? (i := 1) rfl)) e225 2 (hb hby at_139) (rfl) 2 (by decide) (by decide) (by decide) (by decide) rfl rfl ?_
          intro T229 h229 ad229 hb229 X229 e229 E229 A229
          have ne229_ad225_ad229 : ad225 ≠ ad229 := Nat.ne_of_lt (Nat.lt_of_lt_of_eq (own_Al_lt Al225) hb229.symm)
          have g_ad229 : n0 ≤ ad229 := Nat.le_trans Zn226 (Nat.le_of_eq hb229.symm)
          have Zn230 := Nat.le_trans Zn226 E229.1
          have Al225_231 := own_Al_ext E229 Al225
          have Al229 : own_Al Z h229 ad229 .long [(.long (0 : Int64)), (.long (0 : Int64))] := A229
          show own_Ends p e below s (own_Q0 Z l0 l1 l2 u0 u1 sel h0 n0) room_1.cells room_1.slots (T229.setTop (mkF m 141 La228 [(.ref ad229)]))
          obtain ⟨La232, hLa232⟩ : ∃ L : Array Slot, L = #[.val (.long l0), .second, .val (.long l1), .second, .val (.long l2), .second, .val (.long u0), .second, .val (.long u1), .second, .val (.int sel), .val (.int mm), .val (.int (0 : Int32)), .val (.int (0 : Int32)), .val (.int (1 : Int32)), .val (.int (1 : Int32)), .val (.long u0), .second, .val (.long u1), .second, .val (.long v2), .second, .val (.long v3), .second, .val (.int (2 : Int32)), .val (.ref ad225), .val (.ref ad229), .unset, .unset, .unset, .unset, .unset, .unset, .unset, .unset, .unset, .unset, .unset, .unset, .unset] := ⟨_, rfl⟩
          refine own_up (S' := T229.setTop (mkF m 143 La232 [])) (fun t stp => XS.astore X229.here hx rfl (hb hby at_141) rfl rfl (l' := La232) (by rw [hLa228, hLa232]; rfl) stp) ?_
          refine own_up (S' := T229.setTop (mkF m 144 La232 [(.int (0 : Int32))])) (fun t stp => XT.iconstV X229.here hx rfl (0 : Int32) (hb hby at_143) rfl stp) ?_
          obtain ⟨La233, hLa233⟩ : ∃ L : Array Slot, L = #[.val (.long l0), .second, .val (.long l1), .second, .val (.long l2), .second, .val (.long u0), .second, .val (.long u1), .second, .val (.int sel), .val (.int mm), .val (.int (0 : Int32)), .val (.int (0 : Int32)), .val (.int (1 : Int32)), .val (.int (1 : Int32)), .val (.long u0), .second, .val (.long u1), .second, .val (.long v2), .second, .val (.long v3), .second, .val (.int (2 : Int32)), .val (.ref ad225), .val (.ref ad229), .val (.int (0 : Int32)), .unset, .unset, .unset, .unset, .unset, .unset, .unset, .unset, .unset, .unset, .unset, .unset] := ⟨_, rfl⟩
          refine own_up (S' := T229.setTop (mkF m 146 La233 [])) (fun t stp => XS.istore X229.here hx rfl (hb hby at_144) rfl (l' := La233) (by rw [hLa232, hLa233]; rfl) stp) ?_
          refine own_up (S' := T229.setTop (mkF m 148 La233 [(.int (0 : Int32))])) (fun t stp => XS.iload X229.here hx rfl (hb hby at_146) (by rw [hLa233]; rfl) stp) ?_
          have hc148_234 : (0 : Int32) = 0 := hc88_220
          refine own_up (S' := T229.setTop (mkF m 167 La233 [])) (fun t stp => XS.ifYes X229.here hx rfl (pc0 := 148) (pc' := 167) rfl (hb hby at_148) rfl (XT.i0_eq_t hc148_234) (by decide) (by decide) stp) ?_
          refine own_up (S' := T229.setTop (mkF m 169 La233 [(.int (0 : Int32))])) (fun t stp => XS.iload X229.here hx rfl (hb hby at_167) (by rw [hLa233]; rfl) stp) ?_
          have hc169_235 : (0 : Int32) = 0 := hc88_220
          refine own_up (S' := T229.setTop (mkF m 188 La233 [])) (fun t stp => XS.ifYes X229.here hx rfl (pc0 := 169) (pc' := 188) rfl (hb hby at_169) rfl (XT.i0_eq_t hc169_235) (by decide) (by decide) stp) ?_
          refine own_up (S' := T229.setTop (mkF m 190 La233 [(.int (1 : Int32))])) (fun t stp => XS.iload X229.here hx rfl (hb hby at_188) (by rw [hLa233]; rfl) stp) ?_
          have hc190_236 : ¬ ((1 : Int32) = 0) := hc109_222
          refine own_up (S' := T229.setTop (mkF m 193 La233 [])) (fun t stp => XS.ifNo X229.here hx rfl (hb hby at_190) rfl (XT.i0_eq_f hc190_236) stp) ?_
          refine own_up (S' := T229.setTop (mkF m 195 La233 [(.ref ad225)])) (fun t stp => XS.aload X229.here hx rfl (hb hby at_193) (by rw [hLa233]; rfl) rfl stp) ?_
          refine own_up (S' := T229.setTop (mkF m 197 La233 [(.int (0 : Int32)), (.ref ad225)])) (fun t stp => XS.iload X229.here hx rfl (hb hby at_195) (by rw [hLa233]; rfl) stp) ?_
          refine own_up (S' := T229.setTop (mkF m 198 La233 [(.int (2 : Int32)), (.int (0 : Int32)), (.ref ad225)])) (fun t stp => XT.iconstV X229.here hx rfl (2 : Int32) (hb hby at_197) rfl stp) ?_
          refine own_sti X229 hx hZ e229 Al225_231 0 (hb hby at_198) (rfl) (Nat.le_of_ble_eq_true rfl) rfl rfl (g' := (mkF m 199 La233 [])) rfl ?_
          intro T237 h237 X237 e237 W237 B237
          have Zn238 := Nat.le_trans Zn230 (Nat.le_of_eq W237.size.symm)
          have Al229_239 := own_Al_oth W237 Al229 (Ne.symm ne229_ad225_ad229)
          have N237 := Fr.snoc X237 N0 g_ad225
          have Al237 : own_Al Z h237 ad225 .int [(.int (2 : Int32)), (.int (0 : Int32))] := B237
          refine own_up (S' := T237.setTop (mkF m 201 La233 [(.ref ad229)])) (fun t stp => XS.aload X237.here hx rfl (hb hby at_199) (by rw [hLa233]; rfl) rfl stp) ?_
          refine own_up (S' := T237.setTop (mkF m 203 La233 [(.int (0 : Int32)), (.ref ad229)])) (fun t stp => XS.iload X237.here hx rfl (hb hby at_201) (by rw [hLa233]; rfl) stp) ?_
          refine own_up (S' := T237.setTop (mkF m 205 La233 [(.long v2), (.int (0 : Int32)), (.ref ad229)])) (fun t stp => XT.lload X237.here hx rfl (hb hby at_203) (by rw [hLa233]; rfl) stp) ?_
          refine own_stj X237 hx hZ e237 Al229_239 0 (hb hby at_205) (rfl) (Nat.le_of_ble_eq_true rfl) rfl rfl (g' := (mkF m 206 La233 [])) rfl ?_
          intro T240 h240 X240 e240 W240 B240
          have Zn241 := Nat.le_trans Zn238 (Nat.le_of_eq W240.size.symm)
          have Al237_242 := own_Al_oth W240 Al237 ne229_ad225_ad229
          have N240 := Fr.snoc X240 N237 g_ad229
          have Al240 : own_Al Z h240 ad229 .long [(.long v2), (.long (0 : Int64))] := B240
          obtain ⟨La243, hLa243⟩ : ∃ L : Array Slot, L = #[.val (.long l0), .second, .val (.long l1), .second, .val (.long l2), .second, .val (.long u0), .second, .val (.long u1), .second, .val (.int sel), .val (.int mm), .val (.int (0 : Int32)), .val (.int (0 : Int32)), .val (.int (1 : Int32)), .val (.int (1 : Int32)), .val (.long u0), .second, .val (.long u1), .second, .val (.long v2), .second, .val (.long v3), .second, .val (.int (2 : Int32)), .val (.ref ad225), .val (.ref ad229), .val (.int (1 : Int32)), .unset, .unset, .unset, .unset, .unset, .unset, .unset, .unset, .unset, .unset, .unset, .unset] := ⟨_, rfl⟩
          refine own_up (S' := T240.setTop (mkF m 209 La243 [])) (fun t stp => XT.iincV X240.here hx rfl (1 : Int32) (hb hby at_206) rfl (by rw [hLa233]; rfl) (l' := La243) (by rw [hLa233, hLa243]; rfl) stp) ?_
          refine own_up (S' := T240.setTop (mkF m 211 La243 [(.int (1 : Int32))])) (fun t stp => XS.iload X240.here hx rfl (hb hby at_209) (by rw [hLa243]; rfl) stp) ?_
          have hc211_244 : ¬ ((1 : Int32) = 0) := hc109_222
          refine own_up (S' := T240.setTop (mkF m 214 La243 [])) (fun t stp => XS.ifNo X240.here hx rfl (hb hby at_211) rfl (XT.i0_eq_f hc211_244) stp) ?_
          refine own_up (S' := T240.setTop (mkF m 216 La243 [(.ref ad225)])) (fun t stp => XS.aload X240.here hx rfl (hb hby at_214) (by rw [hLa243]; rfl) rfl stp) ?_
          refine own_up (S' := T240.setTop (mkF m 218 La243 [(.int (1 : Int32)), (.ref ad225)])) (fun t stp => XS.iload X240.here hx rfl (hb hby at_216) (by rw [hLa243]; rfl) stp) ?_
          refine own_up (S' := T240.setTop (mkF m 219 La243 [(.int (3 : Int32)), (.int (1 : Int32)), (.ref ad225)])) (fun t stp => XT.iconstV X240.here hx rfl (3 : Int32) (hb hby at_218) rfl stp) ?_
          refine own_sti X240 hx hZ e240 Al237_242 1 (hb hby at_219) (rfl) (Nat.le_of_ble_eq_true rfl) rfl rfl (g' := (mkF m 220 La243 [])) rfl ?_
          intro T245 h245 X245 e245 W245 B245
          have Zn246 := Nat.le_trans Zn241 (Nat.le_of_eq W245.size.symm)
          have Al240_247 := own_Al_oth W245 Al240 (Ne.symm ne229_ad225_ad229)
          have N245 := Fr.snoc X245 N240 g_ad225
          have Al245 : own_Al Z h245 ad225 .int [(.int (2 : Int32)), (.int (3 : Int32))] := B245
          refine own_up (S' := T245.setTop (mkF m 222 La243 [(.ref ad229)])) (fun t stp => XS.aload X245.here hx rfl (hb hby at_220) (by rw [hLa243]; rfl) rfl stp) ?_
          refine own_up (S' := T245.setTop (mkF m 224 La243 [(.int (1 : Int32)), (.ref ad229)])) (fun t stp => XS.iload X245.here hx rfl (hb hby at_222) (by rw [hLa243]; rfl) stp) ?_
          refine own_up (S' := T245.setTop (mkF m 226 La243 [(.long v3), (.int (1 : Int32)), (.ref ad229)])) (fun t stp => XT.lload X245.here hx rfl (hb hby at_224) (by rw [hLa243]; rfl) stp) ?_
          refine own_stj X245 hx hZ e245 Al240_247 1 (hb hby at_226) (rfl) (Nat.le_of_ble_eq_true rfl) rfl rfl (g' := (mkF m 227 La243 [])) rfl ?_
          intro T248 h248 X248 e248 W248 B248
          have Zn249 := Nat.le_trans Zn246 (Nat.le_of_eq W248.size.symm)
          have Al245_250 := own_Al_oth W248 Al245 ne229_ad225_ad229
          have N248 := Fr.snoc X248 N245 g_ad229
          have Al248 : own_Al Z h248 ad229 .long [(.long v2), (.long v3)] := B248
          obtain ⟨La251, hLa251⟩ : ∃ L : Array Slot, L = #[.val (.long l0), .second, .val (.long l1), .second, .val (.long l2), .second, .val (.long u0), .second, .val (.long u1), .second, .val (.int sel), .val (.int mm), .val (.int (0 : Int32)), .val (.int (0 : Int32)), .val (.int (1 : Int32)), .val (.int (1 : Int32)), .val (.long u0), .second, .val (.long u1), .second, .val (.long v2), .second, .val (.long v3), .second, .val (.int (2 : Int32)), .val (.ref ad225), .val (.ref ad229), .val (.int (2 : Int32)), .unset, .unset, .unset, .unset, .unset, .unset, .unset, .unset, .unset, .unset, .unset, .unset] := ⟨_, rfl⟩
          refine own_up (S' := T248.setTop (mkF m 230 La251 [])) (fun t stp => XT.iincV X248.here hx rfl (1 : Int32) (hb hby at_227) rfl (by rw [hLa243]; rfl) (l' := La251) (by rw [hLa243, hLa251]; rfl) stp) ?_
          refine own_up (S' := T248.setTop (mkF m 231 La251 [(.long l0)])) (fun t stp => XT.lloadN X248.here hx rfl (hb hby at_230) (by rw [hLa251]; rfl) stp) ?_
          refine own_up (S' := T248.setTop (mkF m 232 La251 [(.long l1), (.long l0)])) (fun t stp => XT.lloadN X248.here hx rfl (hb hby at_231) (by rw [hLa251]; rfl) stp) ?_
          refine own_up (S' := T248.setTop (mkF m 233 La251 [(.long (l0 ^^^ l1))])) (fun t stp => XT.lxor X248.here hx rfl (hb hby at_232) rfl stp) ?_
          obtain ⟨l3, h_l3⟩ : ∃ z : Int64, z = (l0 ^^^ l1) := ⟨_, rfl⟩
          rw [← h_l3]
          obtain ⟨La252, hLa252⟩ : ∃ L : Array Slot, L = #[.val (.long l0), .second, .val (.long l1), .second, .val (.long l2), .second, .val (.long u0), .second, .val (.long u1), .second, .val (.int sel), .val (.int mm), .val (.int (0 : Int32)), .val (.int (0 : Int32)), .val (.int (1 : Int32)), .val (.int (1 : Int32)), .val (.long u0), .second, .val (.long u1), .second, .val (.long v2), .second, .val (.long v3), .second, .val (.int (2 : Int32)), .val (.ref ad225), .val (.ref ad229), .val (.int (2 : Int32)), .val (.long l3), .second, .unset, .unset, .unset, .unset, .unset, .unset, .unset, .unset, .unset, .unset] := ⟨_, rfl⟩
          refine own_up (S' := T248.setTop (mkF m 235 La252 [])) (fun t stp => XT.lstore X248.here hx rfl (hb hby at_233) rfl (l' := La252) (by rw [hLa251, hLa252]; rfl) stp) ?_
          refine own_up (S' := T248.setTop (mkF m 236 La252 [(.int (4 : Int32))])) (fun t stp => XT.iconstV X248.here hx rfl (4 : Int32) (hb hby at_235) rfl stp) ?_
          refine own_newa X248 hx hZ (ty := .long) rfl (hw _ (List.mem_of_getElem? (i := 1) rfl)) e248 4 (hb hby at_236) (rfl) 4 (by decide) (by decide) (by decide) (by decide) rfl rfl ?_
          intro T253 h253 ad253 hb253 X253 e253 E253 A253
          have ne253_ad225_ad253 : ad225 ≠ ad253 := Nat.ne_of_lt (Nat.lt_of_lt_of_eq (own_Al_lt Al245_250) hb253.symm)
          have ne253_ad229_ad253 : ad229 ≠ ad253 := Nat.ne_of_lt (Nat.lt_of_lt_of_eq (own_Al_lt Al248) hb253.symm)
          have g_ad253 : n0 ≤ ad253 := Nat.le_trans Zn249 (Nat.le_of_eq hb253.symm)
          have Zn254 := Nat.le_trans Zn249 E253.1
          have Al245_255 := own_Al_ext E253 Al245_250
          have Al248_255 := own_Al_ext E253 Al248
          have Al253 : own_Al Z h253 ad253 .long [(.long (0 : Int64)), (.long (0 : Int64)), (.long (0 : Int64)), (.long (0 : Int64))] := A253
          show own_Ends p e below s (own_Q0 Z l0 l1 l2 u0 u1 sel h0 n0) room_1.cells room_1.slots (T253.setTop (mkF m 238 La252 [(.ref ad253)]))
          refine own_up (S' := T253.setTop (mkF m 239 La252 [(.ref ad253), (.ref ad253)])) (fun t stp => XS.dup X253.here hx rfl (hb hby at_238) rfl rfl stp) ?_
          refine own_up (S' := T253.setTop (mkF m 240 La252 [(.int (0 : Int32)), (.ref ad253), (.ref ad253)])) (fun t stp => XT.iconstV X253.here hx rfl (0 : Int32) (hb hby at_239) rfl stp) ?_
          refine own_up (S' := T253.setTop (mkF m 241 La252 [(.long l0), (.int (0 : Int32)), (.ref ad253), (.ref ad253)])) (fun t stp => XT.lloadN X253.here hx rfl (hb hby at_240) (by rw [hLa252]; rfl) stp) ?_
          refine own_stj X253 hx hZ e253 Al253 0 (hb hby at_241) (rfl) (Nat.le_of_ble_eq_true rfl) rfl rfl (g' := (mkF m 242 La252 [(.ref ad253)])) rfl ?_
          intro T256 h256 X256 e256 W256 B256
          have Zn257 := Nat.le_trans Zn254 (Nat.le_of_eq W256.size.symm)
          have Al245_258 := own_Al_oth W256 Al245_255 ne253_ad225_ad253
          have Al248_258 := own_Al_oth W256 Al248_255 ne253_ad229_ad253
          have N256 := Fr.snoc X256 N248 g_ad253
          have Al256 : own_Al Z h256 ad253 .long [(.long l0), (.long (0 : Int64)), (.long (0 : Int64)), (.long (0 : Int64))] := B256
          refine own_up (S' := T256.setTop (mkF m 243 La252 [(.ref ad253), (.ref ad253)])) (fun t stp => XS.dup X256.here hx rfl (hb hby at_242) rfl rfl stp) ?_
          refine own_up (S' := T256.setTop (mkF m 244 La252 [(.int (1 : Int32)), (.ref ad253), (.ref ad253)])) (fun t stp => XT.iconstV X256.here hx rfl (1 : Int32) (hb hby at_243) rfl stp) ?_
          refine own_up (S' := T256.setTop (mkF m 245 La252 [(.long l1), (.int (1 : Int32)), (.ref ad253), (.ref ad253)])) (fun t stp => XT.lloadN X256.here hx rfl (hb hby at_244) (by rw [hLa252]; rfl) stp) ?_
          refine own_stj X256 hx hZ e256 Al256 1 (hb hby at_245) (rfl) (Nat.le_of_ble_eq_true rfl) rfl rfl (g' := (mkF m 246 La252 [(.ref ad253)])) rfl ?_
          intro T259 h259 X259 e259 W259 B259
          have Zn260 := Nat.le_trans Zn257 (Nat.le_of_eq W259.size.symm)
          have Al245_261 := own_Al_oth W259 Al245_258 ne253_ad225_ad253
          have Al248_261 := own_Al_oth W259 Al248_258 ne253_ad229_ad253
          have N259 := Fr.snoc X259 N256 g_ad253
          have Al259 : own_Al Z h259 ad253 .long [(.long l0), (.long l1), (.long (0 : Int64)), (.long (0 : Int64))] := B259
          refine own_up (S' := T259.setTop (mkF m 247 La252 [(.ref ad253), (.ref ad253)])) (fun t stp => XS.dup X259.here hx rfl (hb hby at_246) rfl rfl stp) ?_
          refine own_up (S' := T259.setTop (mkF m 248 La252 [(.int (2 : Int32)), (.ref ad253), (.ref ad253)])) (fun t stp => XT.iconstV X259.here hx rfl (2 : Int32) (hb hby at_247) rfl stp) ?_
          refine own_up (S' := T259.setTop (mkF m 250 La252 [(.long l2), (.int (2 : Int32)), (.ref ad253), (.ref ad253)])) (fun t stp => XT.lload X259.here hx rfl (hb hby at_248) (by rw [hLa252]; rfl) stp) ?_
          refine own_stj X259 hx hZ e259 Al259 2 (hb hby at_250) (rfl) (Nat.le_of_ble_eq_true rfl) rfl rfl (g' := (mkF m 251 La252 [(.ref ad253)])) rfl ?_
          intro T262 h262 X262 e262 W262 B262
          have Zn263 := Nat.le_trans Zn260 (Nat.le_of_eq W262.size.symm)
          have Al245_264 := own_Al_oth W262 Al245_261 ne253_ad225_ad253
          have Al248_264 := own_Al_oth W262 Al248_261 ne253_ad229_ad253
          have N262 := Fr.snoc X262 N259 g_ad253
          have Al262 : own_Al Z h262 ad253 .long [(.long l0), (.long l1), (.long l2), (.long (0 : Int64))] := B262
          refine own_up (S' := T262.setTop (mkF m 252 La252 [(.ref ad253), (.ref ad253)])) (fun t stp => XS.dup X262.here hx rfl (hb hby at_251) rfl rfl stp) ?_
          refine own_up (S' := T262.setTop (mkF m 253 La252 [(.int (3 : Int32)), (.ref ad253), (.ref ad253)])) (fun t stp => XT.iconstV X262.here hx rfl (3 : Int32) (hb hby at_252) rfl stp) ?_
          refine own_up (S' := T262.setTop (mkF m 255 La252 [(.long l3), (.int (3 : Int32)), (.ref ad253), (.ref ad253)])) (fun t stp => XT.lload X262.here hx rfl (hb hby at_253) (by rw [hLa252]; rfl) stp) ?_
          refine own_stj X262 hx hZ e262 Al262 3 (hb hby at_255) (rfl) (Nat.le_of_ble_eq_true rfl) rfl rfl (g' := (mkF m 256 La252 [(.ref ad253)])) rfl ?_
          intro T265 h265 X265 e265 W265 B265
          have Zn266 := Nat.le_trans Zn263 (Nat.le_of_eq W265.size.symm)
          have Al245_267 := own_Al_oth W265 Al245_264 ne253_ad225_ad253
          have Al248_267 := own_Al_oth W265 Al248_264 ne253_ad229_ad253
          have N265 := Fr.snoc X265 N262 g_ad253
          have Al265 : own_Al Z h265 ad253 .long [(.long l0), (.long l1), (.long l2), (.long l3)] := B265
          obtain ⟨La268, hLa268⟩ : ∃ L : Array Slot, L = #[.val (.long l0), .second, .val (.long l1), .second, .val (.long l2), .second, .val (.long u0), .second, .val (.long u1), .second, .val (.int sel), .val (.int mm), .val (.int (0 : Int32)), .val (.int (0 : Int32)), .val (.int (1 : Int32)), .val (.int (1 : Int32)), .val (.long u0), .second, .val (.long u1), .second, .val (.long v2), .second, .val (.long v3), .second, .val (.int (2 : Int32)), .val (.ref ad225), .val (.ref ad229), .val (.int (2 : Int32)), .val (.long l3), .second, .val (.ref ad253), .unset, .unset, .unset, .unset, .unset, .unset, .unset, .unset, .unset] := ⟨_, rfl⟩
          refine own_up (S' := T265.setTop (mkF m 258 La268 [])) (fun t stp => XS.astore X265.here hx rfl (hb hby at_256) rfl rfl (l' := La268) (by rw [hLa252, hLa268]; rfl) stp) ?_
          refine own_new X265 hx hZ hown (hw _ (List.mem_of_getElem? (i := 2) rfl)) (hw _ (List.mem_of_getElem? (i := 3) rfl)) (hw _ (List.mem_of_getElem? (i := 4) rfl)) e265 rfl (hb hby at_258) (by decide) (by decide) ?_
          intro T269 h269 ob hb269 X269 e269 E269 A269 D269
          have ne269_ad225_ob : ad225 ≠ ob := Nat.ne_of_lt (Nat.lt_of_lt_of_eq (own_Al_lt Al245_267) hb269.symm)
          have ne269_ad229_ob : ad229 ≠ ob := Nat.ne_of_lt (Nat.lt_of_lt_of_eq (own_Al_lt Al248_267) hb269.symm)
          have ne269_ad253_ob : ad253 ≠ ob := Nat.ne_of_lt (Nat.lt_of_lt_of_eq (own_Al_lt Al265) hb269.symm)
          have g_ob : n0 ≤ ob := Nat.le_trans Zn266 (Nat.le_of_eq hb269.symm)
          have Zn270 := Nat.le_trans Zn266 E269.1
          have Al245_271 := own_Al_ext E269 Al245_267
          have Al248_271 := own_Al_ext E269 Al248_267
          have Al265_271 := own_Al_ext E269 Al265
          have Fresources_ob : Fld Z h269 ob "com/example/outcry/outcry/combinatorial/Bundle" "resources" "[I" .null := D269 (Or.inr (hw _ (List.mem_of_getElem? (i := 17) rfl))) (ty := (.array .int)) (by decide)
          have Funits_ob : Fld Z h269 ob "com/example/outcry/outcry/combinatorial/Bundle" "units" "[J" .null := D269 (Or.inr (hw _ (List.mem_of_getElem? (i := 19) rfl))) (ty := (.array .long)) (by decide)
          show own_Ends p e below s (own_Q0 Z l0 l1 l2 u0 u1 sel h0 n0) room_1.cells room_1.slots (T269.setTop (mkF m 261 La268 [(.ref ob)]))
          refine own_up (S' := T269.setTop (mkF m 262 La268 [(.ref ob), (.ref ob)])) (fun t stp => XS.dup X269.here hx rfl (hb hby at_261) rfl rfl stp) ?_
          refine own_up (S' := T269.setTop (mkF m 264 La268 [(.ref ad225), (.ref ob), (.ref ob)])) (fun t stp => XS.aload X269.here hx rfl (hb hby at_262) (by rw [hLa268]; rfl) rfl stp) ?_
          refine own_up (S' := T269.setTop (mkF m 266 La268 [(.ref ad229), (.ref ad225), (.ref ob), (.ref ob)])) (fun t stp => XS.aload X269.here hx rfl (hb hby at_264) (by rw [hLa268]; rfl) rfl stp) ?_
          refine own_callI X269 hx hZ rfl hown (hw _ (List.mem_of_getElem? (i := 5) rfl)) (hw _ (List.mem_of_getElem? (i := 6) rfl)) (hw _ (List.mem_of_getElem? (i := 4) rfl)) (hw _ (List.mem_of_getElem? (i := 7) rfl)) (by decide) e269 (rm2 l Z a0 hw [] ob ad225 ad229 h269 n0 Zn270 Fresources_ob Funits_ob A269 g_ob) 1 ob [(.ref ad225), (.ref ad229)] [(.ref ob)] (hb hby at_266) (lenOf own_pd1 rfl) (by decide) (by decide) (by decide) (by decide) rfl (by rw [hml, hLa268]; rfl) rfl (by show 2 * 0 + _ ≤ _; exact Nat.le_of_eq rfl) rfl ?_
          intro T272 L272 r272 X272 q272
          obtain ⟨rfl, M272, K272, G272a_272, G272b_272⟩ := q272
          have N272 := Fr.app N265 M272
          have Zn273 := Nat.le_trans Zn270 K272.1
          have Al245_274 := own_Al_keep K272 Al245_271 (ninS ne269_ad225_ob nin0)
          have Al248_274 := own_Al_keep K272 Al248_271 (ninS ne269_ad229_ob nin0)
          have Al265_274 := own_Al_keep K272 Al265_271 (ninS ne269_ad253_ob nin0)
          have A269_274 := A269.keep K272
          show own_Ends p e below s (own_Q0 Z l0 l1 l2 u0 u1 sel h0 n0) room_1.cells room_1.slots (T272.setTop (mkF m 269 La268 [(.ref ob)]))
          obtain ⟨La275, hLa275⟩ : ∃ L : Array Slot, L = #[.val (.long l0), .second, .val (.long l1), .second, .val (.long l2), .second, .val (.long u0), .second, .val (.long u1), .second, .val (.int sel), .val (.int mm), .val (.int (0 : Int32)), .val (.int (0 : Int32)), .val (.int (1 : Int32)), .val (.int (1 : Int32)), .val (.long u0), .second, .val (.long u1), .second, .val (.long v2), .second, .val (.long v3), .second, .val (.int (2 : Int32)), .val (.ref ad225), .val (.ref ad229), .val (.int (2 : Int32)), .val (.long l3), .second, .val (.ref ad253), .val (.ref ob), .unset, .unset, .unset, .unset, .unset, .unset, .unset, .unset] := ⟨_, rfl⟩
          refine own_up (S' := T272.setTop (mkF m 271 La275 [])) (fun t stp => XS.astore X272.here hx rfl (hb hby at_269) rfl rfl (l' := La275) (by rw [hLa268, hLa275]; rfl) stp) ?_
          refine own_up (S' := T272.setTop (mkF m 273 La275 [(.ref ob)])) (fun t stp => XS.aload X272.here hx rfl (hb hby at_271) (by rw [hLa275]; rfl) rfl stp) ?_
          refine own_up (S' := T272.setTop (mkF m 275 La275 [(.ref ad253), (.ref ob)])) (fun t stp => XS.aload X272.here hx rfl (hb hby at_273) (by rw [hLa275]; rfl) rfl stp) ?_
          refine own_callV X272 hx hZ hown (hw _ (List.mem_of_getElem? (i := 20) rfl)) (hw _ (List.mem_of_getElem? (i := 21) rfl)) (hw _ (List.mem_of_getElem? (i := 23) rfl)) (hw _ (List.mem_of_getElem? (i := 22) rfl)) (hw _ (List.mem_of_getElem? (i := 4) rfl)) (hw _ (List.mem_of_getElem? (i := 24) rfl)) (by decide) rfl (rm12 l Z a0 hw [] ob ad253 ad225 ad229 [(.long l0), (.long l1), (.long l2), (.long l3)] (2 : Int32) v2 (2) l2 (3 : Int32) v3 (3) l3 T272.heap n0 Zn273 G272a_272 G272b_272 Al245_274 Al248_274 Al265_274 g_ad253 ne253_ad225_ad253 ne253_ad229_ad253 (Ne.symm ne269_ad253_ob) (rfl) (rfl) (rfl) (rfl)) 0 A269_274 [(.ref ad253)] [] (hb hby at_275) (lenOf own_pd2 rfl) (by decide) (by decide) (by decide) (by decide) rfl (by rw [hml, hLa275]; rfl) rfl (by show 2 * 0 + _ ≤ _; exact Nat.le_of_eq rfl) rfl ?_
          intro T276 L276 r276 X276 q276
          obtain ⟨rfl, M276, K276, G276a_276⟩ := q276
          have N276 := Fr.app N272 M276
          have Zn277 := Nat.le_trans Zn273 K276.1
          have Al245_278 := own_Al_keep K276 Al245_274 (ninS ne253_ad225_ad253 nin0)
          have Al248_278 := own_Al_keep K276 Al248_274 (ninS ne253_ad229_ad253 nin0)
          have A269_278 := A269_274.keep K276
          have G272a_278 := G272a_272.keep K276 (ninS (Ne.symm ne269_ad253_ob) nin0)
          have G272b_278 := G272b_272.keep K276 (ninS (Ne.symm ne269_ad253_ob) nin0)
          show own_Ends p e below s (own_Q0 Z l0 l1 l2 u0 u1 sel h0 n0) room_1.cells room_1.slots (T276.setTop (mkF m 278 La275 []))
          have Tk276 : own_Al Z T276.heap ad253 .long [(.long l0), (.long l1), (.long (l2 - v2)), (.long (l3 - v3))] := G276a_276
          refine own_up (S' := T276.setTop (mkF m 280 La275 [(.int (0 : Int32))])) (fun t stp => XS.iload X276.here hx rfl (hb hby at_278) (by rw [hLa275]; rfl) stp) ?_
          have hc280_279 : (0 : Int32) = 0 := hc88_220
          refine own_up (S' := T276.setTop (mkF m 290 La275 [])) (fun t stp => XS.ifYes X276.here hx rfl (pc0 := 280) (pc' := 290) rfl (hb hby at_280) rfl (XT.i0_eq_t hc280_279) (by decide) (by decide) stp) ?_
          refine own_up (S' := T276.setTop (mkF m 291 La275 [(.long l0)])) (fun t stp => XT.lloadN X276.here hx rfl (hb hby at_290) (by rw [hLa275]; rfl) stp) ?_
          obtain ⟨La280, hLa280⟩ : ∃ L : Array Slot, L = #[.val (.long l0), .second, .val (.long l1), .second, .val (.long l2), .second, .val (.long u0), .second, .val (.long u1), .second, .val (.int sel), .val (.int mm), .val (.int (0 : Int32)), .val (.int (0 : Int32)), .val (.int (1 : Int32)), .val (.int (1 : Int32)), .val (.long u0), .second, .val (.long u1), .second, .val (.long v2), .second, .val (.long v3), .second, .val (.int (2 : Int32)), .val (.ref ad225), .val (.ref ad229), .val (.int (2 : Int32)), .val (.long l3), .second, .val (.ref ad253), .val (.ref ob), .val (.long l0), .second, .unset, .unset, .unset, .unset, .unset, .unset] := ⟨_, rfl⟩
          refine own_up (S' := T276.setTop (mkF m 293 La280 [])) (fun t stp => XT.lstore X276.here hx rfl (hb hby at_291) rfl (l' := La280) (by rw [hLa275, hLa280]; rfl) stp) ?_
          refine own_up (S' := T276.setTop (mkF m 295 La280 [(.int (0 : Int32))])) (fun t stp => XS.iload X276.here hx rfl (hb hby at_293) (by rw [hLa280]; rfl) stp) ?_
          have hc295_281 : (0 : Int32) = 0 := hc88_220
          refine own_up (S' := T276.setTop (mkF m 305 La280 [])) (fun t stp => XS.ifYes X276.here hx rfl (pc0 := 295) (pc' := 305) rfl (hb hby at_295) rfl (XT.i0_eq_t hc295_281) (by decide) (by decide) stp) ?_
          refine own_up (S' := T276.setTop (mkF m 306 La280 [(.long l1)])) (fun t stp => XT.lloadN X276.here hx rfl (hb hby at_305) (by rw [hLa280]; rfl) stp) ?_
          obtain ⟨La282, hLa282⟩ : ∃ L : Array Slot, L = #[.val (.long l0), .second, .val (.long l1), .second, .val (.long l2), .second, .val (.long u0), .second, .val (.long u1), .second, .val (.int sel), .val (.int mm), .val (.int (0 : Int32)), .val (.int (0 : Int32)), .val (.int (1 : Int32)), .val (.int (1 : Int32)), .val (.long u0), .second, .val (.long u1), .second, .val (.long v2), .second, .val (.long v3), .second, .val (.int (2 : Int32)), .val (.ref ad225), .val (.ref ad229), .val (.int (2 : Int32)), .val (.long l3), .second, .val (.ref ad253), .val (.ref ob), .val (.long l0), .second, .val (.long l1), .second, .unset, .unset, .unset, .unset] := ⟨_, rfl⟩
          refine own_up (S' := T276.setTop (mkF m 308 La282 [])) (fun t stp => XT.lstore X276.here hx rfl (hb hby at_306) rfl (l' := La282) (by rw [hLa280, hLa282]; rfl) stp) ?_
          refine own_up (S' := T276.setTop (mkF m 310 La282 [(.int (1 : Int32))])) (fun t stp => XS.iload X276.here hx rfl (hb hby at_308) (by rw [hLa282]; rfl) stp) ?_
          have hc310_283 : ¬ ((1 : Int32) = 0) := hc109_222
          refine own_up (S' := T276.setTop (mkF m 313 La282 [])) (fun t stp => XS.ifNo X276.here hx rfl (hb hby at_310) rfl (XT.i0_eq_f hc310_283) stp) ?_
          refine own_up (S' := T276.setTop (mkF m 315 La282 [(.long l2)])) (fun t stp => XT.lload X276.here hx rfl (hb hby at_313) (by rw [hLa282]; rfl) stp) ?_
          refine own_up (S' := T276.setTop (mkF m 317 La282 [(.long v2), (.long l2)])) (fun t stp => XT.lload X276.here hx rfl (hb hby at_315) (by rw [hLa282]; rfl) stp) ?_
          refine own_up (S' := T276.setTop (mkF m 318 La282 [(.long (l2 - v2))])) (fun t stp => XT.lsub X276.here hx rfl (hb hby at_317) rfl stp) ?_
          refine own_up (S' := T276.setTop (mkF m 323 La282 [(.long (l2 - v2))])) (fun t stp => XS.goto X276.here hx rfl (pc0 := 318) (pc' := 323) rfl (hb hby at_318) (by decide) (by decide) stp) ?_
          obtain ⟨e2q, h_e2q⟩ : ∃ z : Int64, z = (l2 - v2) := ⟨_, rfl⟩
          rw [← h_e2q]
          obtain ⟨La284, hLa284⟩ : ∃ L : Array Slot, L = #[.val (.long l0), .second, .val (.long l1), .second, .val (.long l2), .second, .val (.long u0), .second, .val (.long u1), .second, .val (.int sel), .val (.int mm), .val (.int (0 : Int32)), .val (.int (0 : Int32)), .val (.int (1 : Int32)), .val (.int (1 : Int32)), .val (.long u0), .second, .val (.long u1), .second, .val (.long v2), .second, .val (.long v3), .second, .val (.int (2 : Int32)), .val (.ref ad225), .val (.ref ad229), .val (.int (2 : Int32)), .val (.long l3), .second, .val (.ref ad253), .val (.ref ob), .val (.long l0), .second, .val (.long l1), .second, .val (.long e2q), .second, .unset, .unset] := ⟨_, rfl⟩
          refine own_up (S' := T276.setTop (mkF m 325 La284 [])) (fun t stp => XT.lstore X276.here hx rfl (hb hby at_323) rfl (l' := La284) (by rw [hLa282, hLa284]; rfl) stp) ?_
          refine own_up (S' := T276.setTop (mkF m 327 La284 [(.int (1 : Int32))])) (fun t stp => XS.iload X276.here hx rfl (hb hby at_325) (by rw [hLa284]; rfl) stp) ?_
          have hc327_285 : ¬ ((1 : Int32) = 0) := hc109_222
          refine own_up (S' := T276.setTop (mkF m 330 La284 [])) (fun t stp => XS.ifNo X276.here hx rfl (hb hby at_327) rfl (XT.i0_eq_f hc327_285) stp) ?_
          refine own_up (S' := T276.setTop (mkF m 332 La284 [(.long l3)])) (fun t stp => XT.lload X276.here hx rfl (hb hby at_330) (by rw [hLa284]; rfl) stp) ?_
          refine own_up (S' := T276.setTop (mkF m 334 La284 [(.long v3), (.long l3)])) (fun t stp => XT.lload X276.here hx rfl (hb hby at_332) (by rw [hLa284]; rfl) stp) ?_
          refine own_up (S' := T276.setTop (mkF m 335 La284 [(.long (l3 - v3))])) (fun t stp => XT.lsub X276.here hx rfl (hb hby at_334) rfl stp) ?_
          refine own_up (S' := T276.setTop (mkF m 340 La284 [(.long (l3 - v3))])) (fun t stp => XS.goto X276.here hx rfl (pc0 := 335) (pc' := 340) rfl (hb hby at_335) (by decide) (by decide) stp) ?_
          obtain ⟨e3q, h_e3q⟩ : ∃ z : Int64, z = (l3 - v3) := ⟨_, rfl⟩
          rw [← h_e3q]
          obtain ⟨La286, hLa286⟩ : ∃ L : Array Slot, L = #[.val (.long l0), .second, .val (.long l1), .second, .val (.long l2), .second, .val (.long u0), .second, .val (.long u1), .second, .val (.int sel), .val (.int mm), .val (.int (0 : Int32)), .val (.int (0 : Int32)), .val (.int (1 : Int32)), .val (.int (1 : Int32)), .val (.long u0), .second, .val (.long u1), .second, .val (.long v2), .second, .val (.long v3), .second, .val (.int (2 : Int32)), .val (.ref ad225), .val (.ref ad229), .val (.int (2 : Int32)), .val (.long l3), .second, .val (.ref ad253), .val (.ref ob), .val (.long l0), .second, .val (.long l1), .second, .val (.long e2q), .second, .val (.long e3q), .second] := ⟨_, rfl⟩
          refine own_up (S' := T276.setTop (mkF m 342 La286 [])) (fun t stp => XT.lstore X276.here hx rfl (hb hby at_340) rfl (l' := La286) (by rw [hLa284, hLa286]; rfl) stp) ?_
          refine own_up (S' := T276.setTop (mkF m 344 La286 [(.ref ad253)])) (fun t stp => XS.aload X276.here hx rfl (hb hby at_342) (by rw [hLa286]; rfl) rfl stp) ?_
          refine own_len X276 hx hZ rfl Tk276 (4 : Int32) (hb hby at_344) (rfl) rfl rfl (g' := (mkF m 345 La286 [(.int (4 : Int32))])) rfl ?_
          refine own_up (S' := T276.setTop (mkF m 346 La286 [(.int (4 : Int32)), (.int (4 : Int32))])) (fun t stp => XT.iconstV X276.here hx rfl (4 : Int32) (hb hby at_345) rfl stp) ?_
          have hc346_287 : (4 : Int32) = (4 : Int32) := rfl
          refine own_up (S' := T276.setTop (mkF m 349 La286 [])) (fun t stp => XS.icmpNo X276.here hx rfl (hb hby at_346) rfl (XT.ii_ne_f hc346_287) stp) ?_
          refine own_up (S' := T276.setTop (mkF m 351 La286 [(.ref ad253)])) (fun t stp => XS.aload X276.here hx rfl (hb hby at_349) (by rw [hLa286]; rfl) rfl stp) ?_
          refine own_up (S' := T276.setTop (mkF m 352 La286 [(.int (0 : Int32)), (.ref ad253)])) (fun t stp => XT.iconstV X276.here hx rfl (0 : Int32) (hb hby at_351) rfl stp) ?_
          refine own_ldj X276 hx hZ rfl Tk276 (v := (.long l0)) 0 (hb hby at_352) (rfl) (rfl) rfl rfl (g' := (mkF m 353 La286 [(.long l0)])) rfl ?_
          refine own_up (S' := T276.setTop (mkF m 355 La286 [(.long l0), (.long l0)])) (fun t stp => XT.lload X276.here hx rfl (hb hby at_353) (by rw [hLa286]; rfl) stp) ?_
          refine own_up (S' := T276.setTop (mkF m 356 La286 [(.int (XT.cmpL l0 l0))])) (fun t stp => XT.lcmp X276.here hx rfl (hb hby at_355) rfl stp) ?_
          have hc356_288 : l0 = l0 := rfl
          have ihc356_288 : l0.toInt = l0.toInt := own_leq hc356_288
          refine own_up (S' := T276.setTop (mkF m 359 La286 [])) (fun t stp => XS.ifNo X276.here hx rfl (hb hby at_356) rfl (XT.ll_ne_f hc356_288) stp) ?_
          refine own_up (S' := T276.setTop (mkF m 361 La286 [(.ref ad253)])) (fun t stp => XS.aload X276.here hx rfl (hb hby at_359) (by rw [hLa286]; rfl) rfl stp) ?_
          refine own_up (S' := T276.setTop (mkF m 362 La286 [(.int (1 : Int32)), (.ref ad253)])) (fun t stp => XT.iconstV X276.here hx rfl (1 : Int32) (hb hby at_361) rfl stp) ?_
          refine own_ldj X276 hx hZ rfl Tk276 (v := (.long l1)) 1 (hb hby at_362) (rfl) (rfl) rfl rfl (g' := (mkF m 363 La286 [(.long l1)])) rfl ?_
          refine own_up (S' := T276.setTop (mkF m 365 La286 [(.long l1), (.long l1)])) (fun t stp => XT.lload X276.here hx rfl (hb hby at_363) (by rw [hLa286]; rfl) stp) ?_
          refine own_up (S' := T276.setTop (mkF m 366 La286 [(.int (XT.cmpL l1 l1))])) (fun t stp => XT.lcmp X276.here hx rfl (hb hby at_365) rfl stp) ?_
          have hc366_289 : l1 = l1 := rfl
          have ihc366_289 : l1.toInt = l1.toInt := own_leq hc366_289
          refine own_up (S' := T276.setTop (mkF m 369 La286 [])) (fun t stp => XS.ifNo X276.here hx rfl (hb hby at_366) rfl (XT.ll_ne_f hc366_289) stp) ?_
          refine own_up (S' := T276.setTop (mkF m 371 La286 [(.ref ad253)])) (fun t stp => XS.aload X276.here hx rfl (hb hby at_369) (by rw [hLa286]; rfl) rfl stp) ?_
          refine own_up (S' := T276.setTop (mkF m 372 La286 [(.int (2 : Int32)), (.ref ad253)])) (fun t stp => XT.iconstV X276.here hx rfl (2 : Int32) (hb hby at_371) rfl stp) ?_
          refine own_ldj X276 hx hZ rfl Tk276 (v := (.long (l2 - v2))) 2 (hb hby at_372) (rfl) (rfl) rfl rfl (g' := (mkF m 373 La286 [(.long (l2 - v2))])) rfl ?_
          refine own_up (S' := T276.setTop (mkF m 375 La286 [(.long e2q), (.long (l2 - v2))])) (fun t stp => XT.lload X276.here hx rfl (hb hby at_373) (by rw [hLa286]; rfl) stp) ?_
          refine own_up (S' := T276.setTop (mkF m 376 La286 [(.int (XT.cmpL (l2 - v2) e2q))])) (fun t stp => XT.lcmp X276.here hx rfl (hb hby at_375) rfl stp) ?_
          have hc376_290 : (l2 - v2) = e2q := h_e2q.symm
          have ihc376_290 : (l2 - v2).toInt = e2q.toInt := own_leq hc376_290
          refine own_up (S' := T276.setTop (mkF m 379 La286 [])) (fun t stp => XS.ifNo X276.here hx rfl (hb hby at_376) rfl (XT.ll_ne_f hc376_290) stp) ?_
          refine own_up (S' := T276.setTop (mkF m 381 La286 [(.ref ad253)])) (fun t stp => XS.aload X276.here hx rfl (hb hby at_379) (by rw [hLa286]; rfl) rfl stp) ?_
          refine own_up (S' := T276.setTop (mkF m 382 La286 [(.int (3 : Int32)), (.ref ad253)])) (fun t stp => XT.iconstV X276.here hx rfl (3 : Int32) (hb hby at_381) rfl stp) ?_
          refine own_ldj X276 hx hZ rfl Tk276 (v := (.long (l3 - v3))) 3 (hb hby at_382) (rfl) (rfl) rfl rfl (g' := (mkF m 383 La286 [(.long (l3 - v3))])) rfl ?_
          refine own_up (S' := T276.setTop (mkF m 385 La286 [(.long e3q), (.long (l3 - v3))])) (fun t stp => XT.lload X276.here hx rfl (hb hby at_383) (by rw [hLa286]; rfl) stp) ?_
          refine own_up (S' := T276.setTop (mkF m 386 La286 [(.int (XT.cmpL (l3 - v3) e3q))])) (fun t stp => XT.lcmp X276.here hx rfl (hb hby at_385) rfl stp) ?_
          have hc386_291 : (l3 - v3) = e3q := h_e3q.symm
          have ihc386_291 : (l3 - v3).toInt = e3q.toInt := own_leq hc386_291
          refine own_up (S' := T276.setTop (mkF m 389 La286 [])) (fun t stp => XS.ifNo X276.here hx rfl (hb hby at_386) rfl (XT.ll_ne_f hc386_291) stp) ?_
          refine own_up (S' := T276.setTop (mkF m 390 La286 [(.int (1 : Int32))])) (fun t stp => XT.iconstV X276.here hx rfl (1 : Int32) (hb hby at_389) rfl stp) ?_
          refine own_up (S' := T276.setTop (mkF m 394 La286 [(.int (1 : Int32))])) (fun t stp => XS.goto X276.here hx rfl (pc0 := 390) (pc' := 394) rfl (hb hby at_390) (by decide) (by decide) stp) ?_
          refine own_retN X276 hx hlk (t := .boolean) hret (by simp) (z' := (1 : Int32)) rfl (hb hby at_394) (by decide) (by decide) ?_
          show own_Q0 Z l0 l1 l2 u0 u1 sel h0 n0 _ T276.heap _
          exact ⟨rfl, N276⟩
    · have ihc25_5 : (mm &&& (2 : Int32)).toInt ≠ 0 := own_ine hc25_5
      refine own_up (S' := T0.setTop (mkF m 28 La4 [])) (fun t stp => XS.ifNo X0.here hx rfl (hb hby at_25) rfl (XT.i0_eq_f hc25_5) stp) ?_
      refine own_up (S' := T0.setTop (mkF m 29 La4 [(.int (1 : Int32))])) (fun t stp => XT.iconstV X0.here hx rfl (1 : Int32) (hb hby at_28) rfl stp) ?_
      refine own_up (S' := T0.setTop (mkF m 33 La4 [(.int (1 : Int32))])) (fun t stp => XS.goto X0.here hx rfl (pc0 := 29) (pc' := 33) rfl (hb hby at_29) (by decide) (by decide) stp) ?_
      obtain ⟨La292, hLa292⟩ : ∃ L : Array Slot, L = #[.val (.long l0), .second, .val (.long l1), .second, .val (.long l2), .second, .val (.long u0), .second, .val (.long u1), .second, .val (.int sel), .val (.int mm), .val (.int (0 : Int32)), .val (.int (1 : Int32)), .unset, .unset, .unset, .unset, .unset, .unset, .unset, .unset, .unset, .unset, .unset, .unset, .unset, .unset, .unset, .unset, .unset, .unset, .unset, .unset, .unset, .unset, .unset, .unset, .unset, .unset] := ⟨_, rfl⟩
      refine own_up (S' := T0.setTop (mkF m 35 La292 [])) (fun t stp => XS.istore X0.here hx rfl (hb hby at_33) rfl (l' := La292) (by rw [hLa4, hLa292]; rfl) stp) ?_
      refine own_up (S' := T0.setTop (mkF m 37 La292 [(.int mm)])) (fun t stp => XS.iload X0.here hx rfl (hb hby at_35) (by rw [hLa292]; rfl) stp) ?_
      refine own_up (S' := T0.setTop (mkF m 38 La292 [(.int (4 : Int32)), (.int mm)])) (fun t stp => XT.iconstV X0.here hx rfl (4 : Int32) (hb hby at_37) rfl stp) ?_
      refine own_up (S' := T0.setTop (mkF m 39 La292 [(.int (mm &&& (4 : Int32)))])) (fun t stp => XS.iand X0.here hx rfl (hb hby at_38) rfl stp) ?_
      by_cases hc39_293 : (mm &&& (4 : Int32)) = 0
      · have ihc39_293 : (mm &&& (4 : Int32)).toInt = 0 := own_ieq hc39_293
        refine own_up (S' := T0.setTop (mkF m 46 La292 [])) (fun t stp => XS.ifYes X0.here hx rfl (pc0 := 39) (pc' := 46) rfl (hb hby at_39) rfl (XT.i0_eq_t hc39_293) (by decide) (by decide) stp) ?_
        refine own_up (S' := T0.setTop (mkF m 47 La292 [(.int (0 : Int32))])) (fun t stp => XT.iconstV X0.here hx rfl (0 : Int32) (hb hby at_46) rfl stp) ?_
        obtain ⟨La294, hLa294⟩ : ∃ L : Array Slot, L = #[.val (.long l0), .second, .val (.long l1), .second, .val (.long l2), .second, .val (.long u0), .second, .val (.long u1), .second, .val (.int sel), .val (.int mm), .val (.int (0 : Int32)), .val (.int (1 : Int32)), .val (.int (0 : Int32)), .unset, .unset, .unset, .unset, .unset, .unset, .unset, .unset, .unset, .unset, .unset, .unset, .unset, .unset, .unset, .unset, .unset, .unset, .unset, .unset, .unset, .unset, .unset, .unset, .unset] := ⟨_, rfl⟩
        refine own_up (S' := T0.setTop (mkF m 49 La294 [])) (fun t stp => XS.istore X0.here hx rfl (hb hby at_47) rfl (l' := La294) (by rw [hLa292, hLa294]; rfl) stp) ?_
        refine own_up (S' := T0.setTop (mkF m 51 La294 [(.int mm)])) (fun t stp => XS.iload X0.here hx rfl (hb hby at_49) (by rw [hLa294]; rfl) stp) ?_
        refine own_up (S' := T0.setTop (mkF m 53 La294 [(.int (8 : Int32)), (.int mm)])) (fun t stp => XT.bipushV X0.here hx rfl (8 : Int32) (hb hby at_51) rfl stp) ?_
        refine own_up (S' := T0.setTop (mkF m 54 La294 [(.int (mm &&& (8 : Int32)))])) (fun t stp => XS.iand X0.here hx rfl (hb hby at_53) rfl stp) ?_
        by_cases hc54_295 : (mm &&& (8 : Int32)) = 0
        · have ihc54_295 : (mm &&& (8 : Int32)).toInt = 0 := own_ieq hc54_295
          refine own_up (S' := T0.setTop (mkF m 61 La294 [])) (fun t stp => XS.ifYes X0.here hx rfl (pc0 := 54) (pc' := 61) rfl (hb hby at_54) rfl (XT.i0_eq_t hc54_295) (by decide) (by decide) stp) ?_
          refine own_up (S' := T0.setTop (mkF m 62 La294 [(.int (0 : Int32))])) (fun t stp => XT.iconstV X0.here hx rfl (0 : Int32) (hb hby at_61) rfl stp) ?_
          obtain ⟨La296, hLa296⟩ : ∃ L : Array Slot, L = #[.val (.long l0), .second, .val (.long l1), .second, .val (.long l2), .second, .val (.long u0), .second, .val (.long u1), .second, .val (.int sel), .val (.int mm), .val (.int (0 : Int32)), .val (.int (1 : Int32)), .val (.int (0 : Int32)), .val (.int (0 : Int32)), .unset, .unset, .unset, .unset, .unset, .unset, .unset, .unset, .unset, .unset, .unset, .unset, .unset, .unset, .unset, .unset, .unset, .unset, .unset, .unset, .unset, .unset, .unset, .unset] := ⟨_, rfl⟩
          refine own_up (S' := T0.setTop (mkF m 64 La296 [])) (fun t stp => XS.istore X0.here hx rfl (hb hby at_62) rfl (l' := La296) (by rw [hLa294, hLa296]; rfl) stp) ?_
          refine own_up (S' := T0.setTop (mkF m 66 La296 [(.long u0)])) (fun t stp => XT.lload X0.here hx rfl (hb hby at_64) (by rw [hLa296]; rfl) stp) ?_
          obtain ⟨La297, hLa297⟩ : ∃ L : Array Slot, L = #[.val (.long l0), .second, .val (.long l1), .second, .val (.long l2), .second, .val (.long u0), .second, .val (.long u1), .second, .val (.int sel), .val (.int mm), .val (.int (0 : Int32)), .val (.int (1 : Int32)), .val (.int (0 : Int32)), .val (.int (0 : Int32)), .val (.long u0), .second, .unset, .unset, .unset, .unset, .unset, .unset, .unset, .unset, .unset, .unset, .unset, .unset, .unset, .unset, .unset, .unset, .unset, .unset, .unset, .unset, .unset, .unset] := ⟨_, rfl⟩
          refine own_up (S' := T0.setTop (mkF m 68 La297 [])) (fun t stp => XT.lstore X0.here hx rfl (hb hby at_66) rfl (l' := La297) (by rw [hLa296, hLa297]; rfl) stp) ?_
          refine own_up (S' := T0.setTop (mkF m 70 La297 [(.long u1)])) (fun t stp => XT.lload X0.here hx rfl (hb hby at_68) (by rw [hLa297]; rfl) stp) ?_
          obtain ⟨La298, hLa298⟩ : ∃ L : Array Slot, L = #[.val (.long l0), .second, .val (.long l1), .second, .val (.long l2), .second, .val (.long u0), .second, .val (.long u1), .second, .val (.int sel), .val (.int mm), .val (.int (0 : Int32)), .val (.int (1 : Int32)), .val (.int (0 : Int32)), .val (.int (0 : Int32)), .val (.long u0), .second, .val (.long u1), .second, .unset, .unset, .unset, .unset, .unset, .unset, .unset, .unset, .unset, .unset, .unset, .unset, .unset, .unset, .unset, .unset, .unset, .unset, .unset, .unset] := ⟨_, rfl⟩
          refine own_up (S' := T0.setTop (mkF m 72 La298 [])) (fun t stp => XT.lstore X0.here hx rfl (hb hby at_70) rfl (l' := La298) (by rw [hLa297, hLa298]; rfl) stp) ?_
          refine own_up (S' := T0.setTop (mkF m 74 La298 [(.long u0)])) (fun t stp => XT.lload X0.here hx rfl (hb hby at_72) (by rw [hLa298]; rfl) stp) ?_
          refine own_up (S' := T0.setTop (mkF m 76 La298 [(.long u1), (.long u0)])) (fun t stp => XT.lload X0.here hx rfl (hb hby at_74) (by rw [hLa298]; rfl) stp) ?_
          refine own_up (S' := T0.setTop (mkF m 77 La298 [(.long (u0 - u1))])) (fun t stp => XT.lsub X0.here hx rfl (hb hby at_76) rfl stp) ?_
          obtain ⟨v2, h_v2⟩ : ∃ z : Int64, z = (u0 - u1) := ⟨_, rfl⟩
          rw [← h_v2]
          obtain ⟨La299, hLa299⟩ : ∃ L : Array Slot, L = #[.val (.long l0), .second, .val (.long l1), .second, .val (.long l2), .second, .val (.long u0), .second, .val (.long u1), .second, .val (.int sel), .val (.int mm), .val (.int (0 : Int32)), .val (.int (1 : Int32)), .val (.int (0 : Int32)), .val (.int (0 : Int32)), .val (.long u0), .second, .val (.long u1), .second, .val (.long v2), .second, .unset, .unset, .unset, .unset, .unset, .unset, .unset, .unset, .unset, .unset, .unset, .unset, .unset, .unset, .unset, .unset, .unset, .unset] := ⟨_, rfl⟩
          refine own_up (S' := T0.setTop (mkF m 79 La299 [])) (fun t stp => XT.lstore X0.here hx rfl (hb hby at_77) rfl (l' := La299) (by rw [hLa298, hLa299]; rfl) stp) ?_
          refine own_up (S' := T0.setTop (mkF m 81 La299 [(.long u1)])) (fun t stp => XT.lload X0.here hx rfl (hb hby at_79) (by rw [hLa299]; rfl) stp) ?_
          refine own_up (S' := T0.setTop (mkF m 83 La299 [(.long l2), (.long u1)])) (fun t stp => XT.lload X0.here hx rfl (hb hby at_81) (by rw [hLa299]; rfl) stp) ?_
          refine own_up (S' := T0.setTop (mkF m 84 La299 [(.long (u1 ^^^ l2))])) (fun t stp => XT.lxor X0.here hx rfl (hb hby at_83) rfl stp) ?_
          obtain ⟨v3, h_v3⟩ : ∃ z : Int64, z = (u1 ^^^ l2) := ⟨_, rfl⟩
          rw [← h_v3]
          obtain ⟨La300, hLa300⟩ : ∃ L : Array Slot, L = #[.val (.long l0), .second, .val (.long l1), .second, .val (.long l2), .second, .val (.long u0), .second, .val (.long u1), .second, .val (.int sel), .val (.int mm), .val (.int (0 : Int32)), .val (.int (1 : Int32)), .val (.int (0 : Int32)), .val (.int (0 : Int32)), .val (.long u0), .second, .val (.long u1), .second, .val (.long v2), .second, .val (.long v3), .second, .unset, .unset, .unset, .unset, .unset, .unset, .unset, .unset, .unset, .unset, .unset, .unset, .unset, .unset, .unset, .unset] := ⟨_, rfl⟩
          refine own_up (S' := T0.setTop (mkF m 86 La300 [])) (fun t stp => XT.lstore X0.here hx rfl (hb hby at_84) rfl (l' := La300) (by rw [hLa299, hLa300]; rfl) stp) ?_
          refine own_up (S' := T0.setTop (mkF m 88 La300 [(.int (0 : Int32))])) (fun t stp => XS.iload X0.here hx rfl (hb hby at_86) (by rw [hLa300]; rfl) stp) ?_
          have hc88_301 : (0 : Int32) = 0 := by decide
          refine own_up (S' := T0.setTop (mkF m 95 La300 [])) (fun t stp => XS.ifYes X0.here hx rfl (pc0 := 88) (pc' := 95) rfl (hb hby at_88) rfl (XT.i0_eq_t hc88_301) (by decide) (by decide) stp) ?_
          refine own_up (S' := T0.setTop (mkF m 96 La300 [(.int (0 : Int32))])) (fun t stp => XT.iconstV X0.here hx rfl (0 : Int32) (hb hby at_95) rfl stp) ?_
          refine own_up (S' := T0.setTop (mkF m 98 La300 [(.int (1 : Int32)), (.int (0 : Int32))])) (fun t stp => XS.iload X0.here hx rfl (hb hby at_96) (by rw [hLa300]; rfl) stp) ?_
          have hc98_302 : ¬ ((1 : Int32) = 0) := by decide
          refine own_up (S' := T0.setTop (mkF m 101 La300 [(.int (0 : Int32))])) (fun t stp => XS.ifNo X0.here hx rfl (hb hby at_98) rfl (XT.i0_eq_f hc98_302) stp) ?_
          refine own_up (S' := T0.setTop (mkF m 102 La300 [(.int (1 : Int32)), (.int (0 : Int32))])) (fun t stp => XT.iconstV X0.here hx rfl (1 : Int32) (hb hby at_101) rfl stp) ?_
          refine own_up (S' := T0.setTop (mkF m 106 La300 [(.int (1 : Int32)), (.int (0 : Int32))])) (fun t stp => XS.goto X0.here hx rfl (pc0 := 102) (pc' := 106) rfl (hb hby at_102) (by decide) (by decide) stp) ?_
          refine own_up (S' := T0.setTop (mkF m 107 La300 [(.int ((0 : Int32) + (1 : Int32)))])) (fun t stp => XS.iadd X0.here hx rfl (hb hby at_106) rfl stp) ?_
          refine own_up (S' := T0.setTop (mkF m 109 La300 [(.int (0 : Int32)), (.int ((0 : Int32) + (1 : Int32)))])) (fun t stp => XS.iload X0.here hx rfl (hb hby at_107) (by rw [hLa300]; rfl) stp) ?_
          have hc109_303 : (0 : Int32) = 0 := hc88_301
          refine own_up (S' := T0.setTop (mkF m 116 La300 [(.int ((0 : Int32) + (1 : Int32)))])) (fun t stp => XS.ifYes X0.here hx rfl (pc0 := 109) (pc' := 116) rfl (hb hby at_109) rfl (XT.i0_eq_t hc109_303) (by decide) (by decide) stp) ?_
          refine own_up (S' := T0.setTop (mkF m 117 La300 [(.int (0 : Int32)), (.int ((0 : Int32) + (1 : Int32)))])) (fun t stp => XT.iconstV X0.here hx rfl (0 : Int32) (hb hby at_116) rfl stp) ?_
          refine own_up (S' := T0.setTop (mkF m 118 La300 [(.int (((0 : Int32) + (1 : Int32)) + (0 : Int32)))])) (fun t stp => XS.iadd X0.here hx rfl (hb hby at_117) rfl stp) ?_
          refine own_up (S' := T0.setTop (mkF m 120 La300 [(.int (0 : Int32)), (.int (((0 : Int32) + (1 : Int32)) + (0 : Int32)))])) (fun t stp => XS.iload X0.here hx rfl (hb hby at_118) (by rw [hLa300]; rfl) stp) ?_
          have hc120_304 : (0 : Int32) = 0 := hc88_301
          refine own_up (S' := T0.setTop (mkF m 127 La300 [(.int (((0 : Int32) + (1 : Int32)) + (0 : Int32)))])) (fun t stp => XS.ifYes X0.here hx rfl (pc0 := 120) (pc' := 127) rfl (hb hby at_120) rfl (XT.i0_eq_t hc120_304) (by decide) (by decide) stp) ?_
          refine own_up (S' := T0.setTop (mkF m 128 La300 [(.int (0 : Int32)), (.int (((0 : Int32) + (1 : Int32)) + (0 : Int32)))])) (fun t stp => XT.iconstV X0.here hx rfl (0 : Int32) (hb hby at_127) rfl stp) ?_
          refine own_up (S' := T0.setTop (mkF m 129 La300 [(.int ((((0 : Int32) + (1 : Int32)) + (0 : Int32)) + (0 : Int32)))])) (fun t stp => XS.iadd X0.here hx rfl (hb hby at_128) rfl stp) ?_
          show own_Ends p e below s (own_Q0 Z l0 l1 l2 u0 u1 sel h0 n0) room_1.cells room_1.slots (T0.setTop (mkF m 129 La300 [(.int (1 : Int32))]))
          obtain ⟨La305, hLa305⟩ : ∃ L : Array Slot, L = #[.val (.long l0), .second, .val (.long l1), .second, .val (.long l2), .second, .val (.long u0), .second, .val (.long u1), .second, .val (.int sel), .val (.int mm), .val (.int (0 : Int32)), .val (.int (1 : Int32)), .val (.int (0 : Int32)), .val (.int (0 : Int32)), .val (.long u0), .second, .val (.long u1), .second, .val (.long v2), .second, .val (.long v3), .second, .val (.int (1 : Int32)), .unset, .unset, .unset, .unset, .unset, .unset, .unset, .unset, .unset, .unset, .unset, .unset, .unset, .unset, .unset] := ⟨_, rfl⟩
          refine own_up (S' := T0.setTop (mkF m 131 La305 [])) (fun t stp => XS.istore X0.here hx rfl (hb hby at_129) rfl (l' := La305) (by rw [hLa300, hLa305]; rfl) stp) ?_
          refine own_up (S' := T0.setTop (mkF m 133 La305 [(.int (1 : Int32))])) (fun t stp => XS.iload X0.here hx rfl (hb hby at_131) (by rw [hLa305]; rfl) stp) ?_
          refine own_newa X0 hx hZ (ty := .int) rfl (hw _ (List.mem_of_getElem? (i := 0) rfl)) e0 1 (hb hby at_133) (rfl) 1 (by decide) (by decide) (by decide) (by decide) rfl rfl ?_
          intro T306 h306 ad306 hb306 X306 e306 E306 A306
          have g_ad306 : n0 ≤ ad306 := Nat.le_trans Z0 (Nat.le_of_eq hb306.symm)
          have Zn307 := Nat.le_trans Z0 E306.1
          have Al306 : own_Al Z h306 ad306 .int [(.int (0 : Int32))] := A306
          show own_Ends p e below s (own_Q0 Z l0 l1 l2 u0 u1 sel h0 n0) room_1.cells room_1.slots (T306.setTop (mkF m 135 La305 [(.ref ad306)]))
          obtain ⟨La309, hLa309⟩ : ∃ L : Array Slot, L = #[.val (.long l0), .second, .val (.long l1), .second, .val (.long l2), .second, .val (.long u0), .second, .val (.long u1), .second, .val (.int sel), .val (.int mm), .val (.int (0 : Int32)), .val (.int (1 : Int32)), .val (.int (0 : Int32)), .val (.int (0 : Int32)), .val (.long u0), .second, .val (.long u1), .second, .val (.long v2), .second, .val (.long v3), .second, .val (.int (1 : Int32)), .val (.ref ad306), .unset, .unset, .unset, .unset, .unset, .unset, .unset, .unset, .unset, .unset, .unset, .unset, .unset, .unset] := ⟨_, rfl⟩
          refine own_up (S' := T306.setTop (mkF m 137 La309 [])) (fun t stp => XS.astore X306.here hx rfl (hb hby at_135) rfl rfl (l' := La309) (by rw [hLa305, hLa309]; rfl) stp) ?_
          refine own_up (S' := T306.setTop (mkF m 139 La309 [(.int (1 : Int32))])) (fun t stp => XS.iload X306.here hx rfl (hb hby at_137) (by rw [hLa309]; rfl) stp) ?_
          refine own_newa X306 hx hZ (ty := .long) rfl (hw _ (List.mem_of_getElem? (i := 1) rfl)) e306 1 (hb hby at_139) (rfl) 1 (by decide) (by decide) (by decide) (by decide) rfl rfl ?_
          intro T310 h310 ad310 hb310 X310 e310 E310 A310
          have ne310_ad306_ad310 : ad306 ≠ ad310 := Nat.ne_of_lt (Nat.lt_of_lt_of_eq (own_Al_lt Al306) hb310.symm)
          have g_ad310 : n0 ≤ ad310 := Nat.le_trans Zn307 (Nat.le_of_eq hb310.symm)
          have Zn311 := Nat.le_trans Zn307 E310.1
          have Al306_312 := own_Al_ext E310 Al306
          have Al310 : own_Al Z h310 ad310 .long [(.long (0 : Int64))] := A310
          show own_Ends p e below s (own_Q0 Z l0 l1 l2 u0 u1 sel h0 n0) room_1.cells room_1.slots (T310.setTop (mkF m 141 La309 [(.ref ad310)]))
          obtain ⟨La313, hLa313⟩ : ∃ L : Array Slot, L = #[.val (.long l0), .second, .val (.long l1), .second, .val (.long l2), .second, .val (.long u0), .second, .val (.long u1), .second, .val (.int sel), .val (.int mm), .val (.int (0 : Int32)), .val (.int (1 : Int32)), .val (.int (0 : Int32)), .val (.int (0 : Int32)), .val (.long u0), .second, .val (.long u1), .second, .val (.long v2), .second, .val (.long v3), .second, .val (.int (1 : Int32)), .val (.ref ad306), .val (.ref ad310), .unset, .unset, .unset, .unset, .unset, .unset, .unset, .unset, .unset, .unset, .unset, .unset, .unset] := ⟨_, rfl⟩
          refine own_up (S' := T310.setTop (mkF m 143 La313 [])) (fun t stp => XS.astore X310.here hx rfl (hb hby at_141) rfl rfl (l' := La313) (by rw [hLa309, hLa313]; rfl) stp) ?_
          refine own_up (S' := T310.setTop (mkF m 144 La313 [(.int (0 : Int32))])) (fun t stp => XT.iconstV X310.here hx rfl (0 : Int32) (hb hby at_143) rfl stp) ?_
          obtain ⟨La314, hLa314⟩ : ∃ L : Array Slot, L = #[.val (.long l0), .second, .val (.long l1), .second, .val (.long l2), .second, .val (.long u0), .second, .val (.long u1), .second, .val (.int sel), .val (.int mm), .val (.int (0 : Int32)), .val (.int (1 : Int32)), .val (.int (0 : Int32)), .val (.int (0 : Int32)), .val (.long u0), .second, .val (.long u1), .second, .val (.long v2), .second, .val (.long v3), .second, .val (.int (1 : Int32)), .val (.ref ad306), .val (.ref ad310), .val (.int (0 : Int32)), .unset, .unset, .unset, .unset, .unset, .unset, .unset, .unset, .unset, .unset, .unset, .unset] := ⟨_, rfl⟩
          refine own_up (S' := T310.setTop (mkF m 146 La314 [])) (fun t stp => XS.istore X310.here hx rfl (hb hby at_144) rfl (l' := La314) (by rw [hLa313, hLa314]; rfl) stp) ?_
          refine own_up (S' := T310.setTop (mkF m 148 La314 [(.int (0 : Int32))])) (fun t stp => XS.iload X310.here hx rfl (hb hby at_146) (by rw [hLa314]; rfl) stp) ?_
          have hc148_315 : (0 : Int32) = 0 := hc88_301
          refine own_up (S' := T310.setTop (mkF m 167 La314 [])) (fun t stp => XS.ifYes X310.here hx rfl (pc0 := 148) (pc' := 167) rfl (hb hby at_148) rfl (XT.i0_eq_t hc148_315) (by decide) (by decide) stp) ?_
          refine own_up (S' := T310.setTop (mkF m 169 La314 [(.int (1 : Int32))])) (fun t stp => XS.iload X310.here hx rfl (hb hby at_167) (by rw [hLa314]; rfl) stp) ?_
          have hc169_316 : ¬ ((1 : Int32) = 0) := hc98_302
          refine own_up (S' := T310.setTop (mkF m 172 La314 [])) (fun t stp => XS.ifNo X310.here hx rfl (hb hby at_169) rfl (XT.i0_eq_f hc169_316) stp) ?_
          refine own_up (S' := T310.setTop (mkF m 174 La314 [(.ref ad306)])) (fun t stp => XS.aload X310.here hx rfl (hb hby at_172) (by rw [hLa314]; rfl) rfl stp) ?_
          refine own_up (S' := T310.setTop (mkF m 176 La314 [(.int (0 : Int32)), (.ref ad306)])) (fun t stp => XS.iload X310.here hx rfl (hb hby at_174) (by rw [hLa314]; rfl) stp) ?_
          refine own_up (S' := T310.setTop (mkF m 177 La314 [(.int (1 : Int32)), (.int (0 : Int32)), (.ref ad306)])) (fun t stp => XT.iconstV X310.here hx rfl (1 : Int32) (hb hby at_176) rfl stp) ?_
          refine own_sti X310 hx hZ e310 Al306_312 0 (hb hby at_177) (rfl) (Nat.le_of_ble_eq_true rfl) rfl rfl (g' := (mkF m 178 La314 [])) rfl ?_
          intro T317 h317 X317 e317 W317 B317
          have Zn318 := Nat.le_trans Zn311 (Nat.le_of_eq W317.size.symm)
          have Al310_319 := own_Al_oth W317 Al310 (Ne.symm ne310_ad306_ad310)
          have N317 := Fr.snoc X317 N0 g_ad306
          have Al317 : own_Al Z h317 ad306 .int [(.int (1 : Int32))] := B317
          refine own_up (S' := T317.setTop (mkF m 180 La314 [(.ref ad310)])) (fun t stp => XS.aload X317.here hx rfl (hb hby at_178) (by rw [hLa314]; rfl) rfl stp) ?_
          refine own_up (S' := T317.setTop (mkF m 182 La314 [(.int (0 : Int32)), (.ref ad310)])) (fun t stp => XS.iload X317.here hx rfl (hb hby at_180) (by rw [hLa314]; rfl) stp) ?_
          refine own_up (S' := T317.setTop (mkF m 184 La314 [(.long u1), (.int (0 : Int32)), (.ref ad310)])) (fun t stp => XT.lload X317.here hx rfl (hb hby at_182) (by rw [hLa314]; rfl) stp) ?_
          refine own_stj X317 hx hZ e317 Al310_319 0 (hb hby at_184) (rfl) (Nat.le_of_ble_eq_true rfl) rfl rfl (g' := (mkF m 185 La314 [])) rfl ?_
          intro T320 h320 X320 e320 W320 B320
          have Zn321 := Nat.le_trans Zn318 (Nat.le_of_eq W320.size.symm)
          have Al317_322 := own_Al_oth W320 Al317 ne310_ad306_ad310
          have N320 := Fr.snoc X320 N317 g_ad310
          have Al320 : own_Al Z h320 ad310 .long [(.long u1)] := B320
          obtain ⟨La323, hLa323⟩ : ∃ L : Array Slot, L = #[.val (.long l0), .second, .val (.long l1), .second, .val (.long l2), .second, .val (.long u0), .second, .val (.long u1), .second, .val (.int sel), .val (.int mm), .val (.int (0 : Int32)), .val (.int (1 : Int32)), .val (.int (0 : Int32)), .val (.int (0 : Int32)), .val (.long u0), .second, .val (.long u1), .second, .val (.long v2), .second, .val (.long v3), .second, .val (.int (1 : Int32)), .val (.ref ad306), .val (.ref ad310), .val (.int (1 : Int32)), .unset, .unset, .unset, .unset, .unset, .unset, .unset, .unset, .unset, .unset, .unset, .unset] := ⟨_, rfl⟩
          refine own_up (S' := T320.setTop (mkF m 188 La323 [])) (fun t stp => XT.iincV X320.here hx rfl (1 : Int32) (hb hby at_185) rfl (by rw [hLa314]; rfl) (l' := La323) (by rw [hLa314, hLa323]; rfl) stp) ?_
          refine own_up (S' := T320.setTop (mkF m 190 La323 [(.int (0 : Int32))])) (fun t stp => XS.iload X320.here hx rfl (hb hby at_188) (by rw [hLa323]; rfl) stp) ?_
          have hc190_324 : (0 : Int32) = 0 := hc88_301
          refine own_up (S' := T320.setTop (mkF m 209 La323 [])) (fun t stp => XS.ifYes X320.here hx rfl (pc0 := 190) (pc' := 209) rfl (hb hby at_190) rfl (XT.i0_eq_t hc190_324) (by decide) (by decide) stp) ?_
          refine own_up (S' := T320.setTop (mkF m 211 La323 [(.int (0 : Int32))])) (fun t stp => XS.iload X320.here hx rfl (hb hby at_209) (by rw [hLa323]; rfl) stp) ?_
          have hc211_325 : (0 : Int32) = 0 := hc88_301
          refine own_up (S' := T320.setTop (mkF m 230 La323 [])) (fun t stp => XS.ifYes X320.here hx rfl (pc0 := 211) (pc' := 230) rfl (hb hby at_211) rfl (XT.i0_eq_t hc211_325) (by decide) (by decide) stp) ?_
          refine own_up (S' := T320.setTop (mkF m 231 La323 [(.long l0)])) (fun t stp => XT.lloadN X320.here hx rfl (hb hby at_230) (by rw [hLa323]; rfl) stp) ?_
          refine own_up (S' := T320.setTop (mkF m 232 La323 [(.long l1), (.long l0)])) (fun t stp => XT.lloadN X320.here hx rfl (hb hby at_231) (by rw [hLa323]; rfl) stp) ?_
          refine own_up (S' := T320.setTop (mkF m 233 La323 [(.long (l0 ^^^ l1))])) (fun t stp => XT.lxor X320.here hx rfl (hb hby at_232) rfl stp) ?_
          obtain ⟨l3, h_l3⟩ : ∃ z : Int64, z = (l0 ^^^ l1) := ⟨_, rfl⟩
          rw [← h_l3]
          obtain ⟨La326, hLa326⟩ : ∃ L : Array Slot, L = #[.val (.long l0), .second, .val (.long l1), .second, .val (.long l2), .second, .val (.long u0), .second, .val (.long u1), .second, .val (.int sel), .val (.int mm), .val (.int (0 : Int32)), .val (.int (1 : Int32)), .val (.int (0 : Int32)), .val (.int (0 : Int32)), .val (.long u0), .second, .val (.long u1), .second, .val (.long v2), .second, .val (.long v3), .second, .val (.int (1 : Int32)), .val (.ref ad306), .val (.ref ad310), .val (.int (1 : Int32)), .val (.long l3), .second, .unset, .unset, .unset, .unset, .unset, .unset, .unset, .unset, .unset, .unset] := ⟨_, rfl⟩
          refine own_up (S' := T320.setTop (mkF m 235 La326 [])) (fun t stp => XT.lstore X320.here hx rfl (hb hby at_233) rfl (l' := La326) (by rw [hLa323, hLa326]; rfl) stp) ?_
          refine own_up (S' := T320.setTop (mkF m 236 La326 [(.int (4 : Int32))])) (fun t stp => XT.iconstV X320.here hx rfl (4 : Int32) (hb hby at_235) rfl stp) ?_
          refine own_newa X320 hx hZ (ty := .long) rfl (hw _ (List.mem_of_getElem? (i := 1) rfl)) e320 4 (hb hby at_236) (rfl) 4 (by decide) (by decide) (by decide) (by decide) rfl rfl ?_
          intro T327 h327 ad327 hb327 X327 e327 E327 A327
          have ne327_ad306_ad327 : ad306 ≠ ad327 := Nat.ne_of_lt (Nat.lt_of_lt_of_eq (own_Al_lt Al317_322) hb327.symm)
          have ne327_ad310_ad327 : ad310 ≠ ad327 := Nat.ne_of_lt (Nat.lt_of_lt_of_eq (own_Al_lt Al320) hb327.symm)
          have g_ad327 : n0 ≤ ad327 := Nat.le_trans Zn321 (Nat.le_of_eq hb327.symm)
          have Zn328 := Nat.le_trans Zn321 E327.1
          have Al317_329 := own_Al_ext E327 Al317_322
          have Al320_329 := own_Al_ext E327 Al320
          have Al327 : own_Al Z h327 ad327 .long [(.long (0 : Int64)), (.long (0 : Int64)), (.long (0 : Int64)), (.long (0 : Int64))] := A327
          show own_Ends p e below s (own_Q0 Z l0 l1 l2 u0 u1 sel h0 n0) room_1.cells room_1.slots (T327.setTop (mkF m 238 La326 [(.ref ad327)]))
          refine own_up (S' := T327.setTop (mkF m 239 La326 [(.ref ad327), (.ref ad327)])) (fun t stp => XS.dup X327.here hx rfl (hb hby at_238) rfl rfl stp) ?_
          refine own_up (S' := T327.setTop (mkF m 240 La326 [(.int (0 : Int32)), (.ref ad327), (.ref ad327)])) (fun t stp => XT.iconstV X327.here hx rfl (0 : Int32) (hb hby at_239) rfl stp) ?_
          refine own_up (S' := T327.setTop (mkF m 241 La326 [(.long l0), (.int (0 : Int32)), (.ref ad327), (.ref ad327)])) (fun t stp => XT.lloadN X327.here hx rfl (hb hby at_240) (by rw [hLa326]; rfl) stp) ?_
          refine own_stj X327 hx hZ e327 Al327 0 (hb hby at_241) (rfl) (Nat.le_of_ble_eq_true rfl) rfl rfl (g' := (mkF m 242 La326 [(.ref ad327)])) rfl ?_
          intro T330 h330 X330 e330 W330 B330
          have Zn331 := Nat.le_trans Zn328 (Nat.le_of_eq W330.size.symm)
          have Al317_332 := own_Al_oth W330 Al317_329 ne327_ad306_ad327
          have Al320_332 := own_Al_oth W330 Al320_329 ne327_ad310_ad327
          have N330 := Fr.snoc X330 N320 g_ad327
          have Al330 : own_Al Z h330 ad327 .long [(.long l0), (.long (0 : Int64)), (.long (0 : Int64)), (.long (0 : Int64))] := B330
          refine own_up (S' := T330.setTop (mkF m 243 La326 [(.ref ad327), (.ref ad327)])) (fun t stp => XS.dup X330.here hx rfl (hb hby at_242) rfl rfl stp) ?_
          refine own_up (S' := T330.setTop (mkF m 244 La326 [(.int (1 : Int32)), (.ref ad327), (.ref ad327)])) (fun t stp => XT.iconstV X330.here hx rfl (1 : Int32) (hb hby at_243) rfl stp) ?_
          refine own_up (S' := T330.setTop (mkF m 245 La326 [(.long l1), (.int (1 : Int32)), (.ref ad327), (.ref ad327)])) (fun t stp => XT.lloadN X330.here hx rfl (hb hby at_244) (by rw [hLa326]; rfl) stp) ?_
          refine own_stj X330 hx hZ e330 Al330 1 (hb hby at_245) (rfl) (Nat.le_of_ble_eq_true rfl) rfl rfl (g' := (mkF m 246 La326 [(.ref ad327)])) rfl ?_
          intro T333 h333 X333 e333 W333 B333
          have Zn334 := Nat.le_trans Zn331 (Nat.le_of_eq W333.size.symm)
          have Al317_335 := own_Al_oth W333 Al317_332 ne327_ad306_ad327
          have Al320_335 := own_Al_oth W333 Al320_332 ne327_ad310_ad327
          have N333 := Fr.snoc X333 N330 g_ad327
          have Al333 : own_Al Z h333 ad327 .long [(.long l0), (.long l1), (.long (0 : Int64)), (.long (0 : Int64))] := B333
          refine own_up (S' := T333.setTop (mkF m 247 La326 [(.ref ad327), (.ref ad327)])) (fun t stp => XS.dup X333.here hx rfl (hb hby at_246) rfl rfl stp) ?_
          refine own_up (S' := T333.setTop (mkF m 248 La326 [(.int (2 : Int32)), (.ref ad327), (.ref ad327)])) (fun t stp => XT.iconstV X333.here hx rfl (2 : Int32) (hb hby at_247) rfl stp) ?_
          refine own_up (S' := T333.setTop (mkF m 250 La326 [(.long l2), (.int (2 : Int32)), (.ref ad327), (.ref ad327)])) (fun t stp => XT.lload X333.here hx rfl (hb hby at_248) (by rw [hLa326]; rfl) stp) ?_
          refine own_stj X333 hx hZ e333 Al333 2 (hb hby at_250) (rfl) (Nat.le_of_ble_eq_true rfl) rfl rfl (g' := (mkF m 251 La326 [(.ref ad327)])) rfl ?_
          intro T336 h336 X336 e336 W336 B336
          have Zn337 := Nat.le_trans Zn334 (Nat.le_of_eq W336.size.symm)
          have Al317_338 := own_Al_oth W336 Al317_335 ne327_ad306_ad327
          have Al320_338 := own_Al_oth W336 Al320_335 ne327_ad310_ad327
          have N336 := Fr.snoc X336 N333 g_ad327
          have Al336 : own_Al Z h336 ad327 .long [(.long l0), (.long l1), (.long l2), (.long (0 : Int64))] := B336
          refine own_up (S' := T336.setTop (mkF m 252 La326 [(.ref ad327), (.ref ad327)])) (fun t stp => XS.dup X336.here hx rfl (hb hby at_251) rfl rfl stp) ?_
          refine own_up (S' := T336.setTop (mkF m 253 La326 [(.int (3 : Int32)), (.ref ad327), (.ref ad327)])) (fun t stp => XT.iconstV X336.here hx rfl (3 : Int32) (hb hby at_252) rfl stp) ?_
          refine own_up (S' := T336.setTop (mkF m 255 La326 [(.long l3), (.int (3 : Int32)), (.ref ad327), (.ref ad327)])) (fun t stp => XT.lload X336.here hx rfl (hb hby at_253) (by rw [hLa326]; rfl) stp) ?_
          refine own_stj X336 hx hZ e336 Al336 3 (hb hby at_255) (rfl) (Nat.le_of_ble_eq_true rfl) rfl rfl (g' := (mkF m 256 La326 [(.ref ad327)])) rfl ?_
          intro T339 h339 X339 e339 W339 B339
          have Zn340 := Nat.le_trans Zn337 (Nat.le_of_eq W339.size.symm)
          have Al317_341 := own_Al_oth W339 Al317_338 ne327_ad306_ad327
          have Al320_341 := own_Al_oth W339 Al320_338 ne327_ad310_ad327
          have N339 := Fr.snoc X339 N336 g_ad327
          have Al339 : own_Al Z h339 ad327 .long [(.long l0), (.long l1), (.long l2), (.long l3)] := B339
          obtain ⟨La342, hLa342⟩ : ∃ L : Array Slot, L = #[.val (.long l0), .second, .val (.long l1), .second, .val (.long l2), .second, .val (.long u0), .second, .val (.long u1), .second, .val (.int sel), .val (.int mm), .val (.int (0 : Int32)), .val (.int (1 : Int32)), .val (.int (0 : Int32)), .val (.int (0 : Int32)), .val (.long u0), .second, .val (.long u1), .second, .val (.long v2), .second, .val (.long v3), .second, .val (.int (1 : Int32)), .val (.ref ad306), .val (.ref ad310), .val (.int (1 : Int32)), .val (.long l3), .second, .val (.ref ad327), .unset, .unset, .unset, .unset, .unset, .unset, .unset, .unset, .unset] := ⟨_, rfl⟩
          refine own_up (S' := T339.setTop (mkF m 258 La342 [])) (fun t stp => XS.astore X339.here hx rfl (hb hby at_256) rfl rfl (l' := La342) (by rw [hLa326, hLa342]; rfl) stp) ?_
          refine own_new X339 hx hZ hown (hw _ (List.mem_of_getElem? (i := 2) rfl)) (hw _ (List.mem_of_getElem? (i := 3) rfl)) (hw _ (List.mem_of_getElem? (i := 4) rfl)) e339 rfl (hb hby at_258) (by decide) (by decide) ?_
          intro T343 h343 ob hb343 X343 e343 E343 A343 D343
          have ne343_ad306_ob : ad306 ≠ ob := Nat.ne_of_lt (Nat.lt_of_lt_of_eq (own_Al_lt Al317_341) hb343.symm)
          have ne343_ad310_ob : ad310 ≠ ob := Nat.ne_of_lt (Nat.lt_of_lt_of_eq (own_Al_lt Al320_341) hb343.symm)
          have ne343_ad327_ob : ad327 ≠ ob := Nat.ne_of_lt (Nat.lt_of_lt_of_eq (own_Al_lt Al339) hb343.symm)
          have g_ob : n0 ≤ ob := Nat.le_trans Zn340 (Nat.le_of_eq hb343.symm)
          have Zn344 := Nat.le_trans Zn340 E343.1
          have Al317_345 := own_Al_ext E343 Al317_341
          have Al320_345 := own_Al_ext E343 Al320_341
          have Al339_345 := own_Al_ext E343 Al339
          have Fresources_ob : Fld Z h343 ob "com/example/outcry/outcry/combinatorial/Bundle" "resources" "[I" .null := D343 (Or.inr (hw _ (List.mem_of_getElem? (i := 17) rfl))) (ty := (.array .int)) (by decide)
          have Funits_ob : Fld Z h343 ob "com/example/outcry/outcry/combinatorial/Bundle" "units" "[J" .null := D343 (Or.inr (hw _ (List.mem_of_getElem? (i := 19) rfl))) (ty := (.array .long)) (by decide)
          show own_Ends p e below s (own_Q0 Z l0 l1 l2 u0 u1 sel h0 n0) room_1.cells room_1.slots (T343.setTop (mkF m 261 La342 [(.ref ob)]))
          refine own_up (S' := T343.setTop (mkF m 262 La342 [(.ref ob), (.ref ob)])) (fun t stp => XS.dup X343.here hx rfl (hb hby at_261) rfl rfl stp) ?_
          refine own_up (S' := T343.setTop (mkF m 264 La342 [(.ref ad306), (.ref ob), (.ref ob)])) (fun t stp => XS.aload X343.here hx rfl (hb hby at_262) (by rw [hLa342]; rfl) rfl stp) ?_
          refine own_up (S' := T343.setTop (mkF m 266 La342 [(.ref ad310), (.ref ad306), (.ref ob), (.ref ob)])) (fun t stp => XS.aload X343.here hx rfl (hb hby at_264) (by rw [hLa342]; rfl) rfl stp) ?_
          refine own_callI X343 hx hZ rfl hown (hw _ (List.mem_of_getElem? (i := 5) rfl)) (hw _ (List.mem_of_getElem? (i := 6) rfl)) (hw _ (List.mem_of_getElem? (i := 4) rfl)) (hw _ (List.mem_of_getElem? (i := 7) rfl)) (by decide) e343 (rm2 l Z a0 hw [] ob ad306 ad310 h343 n0 Zn344 Fresources_ob Funits_ob A343 g_ob) 1 ob [(.ref ad306), (.ref ad310)] [(.ref ob)] (hb hby at_266) (lenOf own_pd1 rfl) (by decide) (by decide) (by decide) (by decide) rfl (by rw [hml, hLa342]; rfl) rfl (by show 2 * 0 + _ ≤ _; exact Nat.le_of_eq rfl) rfl ?_
          intro T346 L346 r346 X346 q346
          obtain ⟨rfl, M346, K346, G346a_346, G346b_346⟩ := q346
          have N346 := Fr.app N339 M346
          have Zn347 := Nat.le_trans Zn344 K346.1
          have Al317_348 := own_Al_keep K346 Al317_345 (ninS ne343_ad306_ob nin0)
          have Al320_348 := own_Al_keep K346 Al320_345 (ninS ne343_ad310_ob nin0)
          have Al339_348 := own_Al_keep K346 Al339_345 (ninS ne343_ad327_ob nin0)
          have A343_348 := A343.keep K346
          show own_Ends p e below s (own_Q0 Z l0 l1 l2 u0 u1 sel h0 n0) room_1.cells room_1.slots (T346.setTop (mkF m 269 La342 [(.ref ob)]))
          obtain ⟨La349, hLa349⟩ : ∃ L : Array Slot, L = #[.val (.long l0), .second, .val (.long l1), .second, .val (.long l2), .second, .val (.long u0), .second, .val (.long u1), .second, .val (.int sel), .val (.int mm), .val (.int (0 : Int32)), .val (.int (1 : Int32)), .val (.int (0 : Int32)), .val (.int (0 : Int32)), .val (.long u0), .second, .val (.long u1), .second, .val (.long v2), .second, .val (.long v3), .second, .val (.int (1 : Int32)), .val (.ref ad306), .val (.ref ad310), .val (.int (1 : Int32)), .val (.long l3), .second, .val (.ref ad327), .val (.ref ob), .unset, .unset, .unset, .unset, .unset, .unset, .unset, .unset] := ⟨_, rfl⟩
          refine own_up (S' := T346.setTop (mkF m 271 La349 [])) (fun t stp => XS.astore X346.here hx rfl (hb hby at_269) rfl rfl (l' := La349) (by rw [hLa342, hLa349]; rfl) stp) ?_
          refine own_up (S' := T346.setTop (mkF m 273 La349 [(.ref ob)])) (fun t stp => XS.aload X346.here hx rfl (hb hby at_271) (by rw [hLa349]; rfl) rfl stp) ?_
          refine own_up (S' := T346.setTop (mkF m 275 La349 [(.ref ad327), (.ref ob)])) (fun t stp => XS.aload X346.here hx rfl (hb hby at_273) (by rw [hLa349]; rfl) rfl stp) ?_
          refine own_callV X346 hx hZ hown (hw _ (List.mem_of_getElem? (i := 20) rfl)) (hw _ (List.mem_of_getElem? (i := 21) rfl)) (hw _ (List.mem_of_getElem? (i := 23) rfl)) (hw _ (List.mem_of_getElem? (i := 22) rfl)) (hw _ (List.mem_of_getElem? (i := 4) rfl)) (hw _ (List.mem_of_getElem? (i := 24) rfl)) (by decide) rfl (rm11 l Z a0 hw [] ob ad327 ad306 ad310 [(.long l0), (.long l1), (.long l2), (.long l3)] (1 : Int32) u1 (1) l1 T346.heap n0 Zn347 G346a_346 G346b_346 Al317_348 Al320_348 Al339_348 g_ad327 ne327_ad306_ad327 ne327_ad310_ad327 (Ne.symm ne343_ad327_ob) (rfl) (rfl)) 0 A343_348 [(.ref ad327)] [] (hb hby at_275) (lenOf own_pd2 rfl) (by decide) (by decide) (by decide) (by decide) rfl (by rw [hml, hLa349]; rfl) rfl (by show 2 * 0 + _ ≤ _; exact Nat.le_of_eq rfl) rfl ?_
          intro T350 L350 r350 X350 q350
          obtain ⟨rfl, M350, K350, G350a_350⟩ := q350
          have N350 := Fr.app N346 M350
          have Zn351 := Nat.le_trans Zn347 K350.1
          have Al317_352 := own_Al_keep K350 Al317_348 (ninS ne327_ad306_ad327 nin0)
          have Al320_352 := own_Al_keep K350 Al320_348 (ninS ne327_ad310_ad327 nin0)
          have A343_352 := A343_348.keep K350
          have G346a_352 := G346a_346.keep K350 (ninS (Ne.symm ne343_ad327_ob) nin0)
          have G346b_352 := G346b_346.keep K350 (ninS (Ne.symm ne343_ad327_ob) nin0)
          show own_Ends p e below s (own_Q0 Z l0 l1 l2 u0 u1 sel h0 n0) room_1.cells room_1.slots (T350.setTop (mkF m 278 La349 []))
          have Tk350 : own_Al Z T350.heap ad327 .long [(.long l0), (.long (l1 - u1)), (.long l2), (.long l3)] := G350a_350
          refine own_up (S' := T350.setTop (mkF m 280 La349 [(.int (0 : Int32))])) (fun t stp => XS.iload X350.here hx rfl (hb hby at_278) (by rw [hLa349]; rfl) stp) ?_
          have hc280_353 : (0 : Int32) = 0 := hc88_301
          refine own_up (S' := T350.setTop (mkF m 290 La349 [])) (fun t stp => XS.ifYes X350.here hx rfl (pc0 := 280) (pc' := 290) rfl (hb hby at_280) rfl (XT.i0_eq_t hc280_353) (by decide) (by decide) stp) ?_
          refine own_up (S' := T350.setTop (mkF m 291 La349 [(.long l0)])) (fun t stp => XT.lloadN X350.here hx rfl (hb hby at_290) (by rw [hLa349]; rfl) stp) ?_
          obtain ⟨La354, hLa354⟩ : ∃ L : Array Slot, L = #[.val (.long l0), .second, .val (.long l1), .second, .val (.long l2), .second, .val (.long u0), .second, .val (.long u1), .second, .val (.int sel), .val (.int mm), .val (.int (0 : Int32)), .val (.int (1 : Int32)), .val (.int (0 : Int32)), .val (.int (0 : Int32)), .val (.long u0), .second, .val (.long u1), .second, .val (.long v2), .second, .val (.long v3), .second, .val (.int (1 : Int32)), .val (.ref ad306), .val (.ref ad310), .val (.int (1 : Int32)), .val (.long l3), .second, .val (.ref ad327), .val (.ref ob), .val (.long l0), .second, .unset, .unset, .unset, .unset, .unset, .unset] := ⟨_, rfl⟩
          refine own_up (S' := T350.setTop (mkF m 293 La354 [])) (fun t stp => XT.lstore X350.here hx rfl (hb hby at_291) rfl (l' := La354) (by rw [hLa349, hLa354]; rfl) stp) ?_
          refine own_up (S' := T350.setTop (mkF m 295 La354 [(.int (1 : Int32))])) (fun t stp => XS.iload X350.here hx rfl (hb hby at_293) (by rw [hLa354]; rfl) stp) ?_
          have hc295_355 : ¬ ((1 : Int32) = 0) := hc98_302
          refine own_up (S' := T350.setTop (mkF m 298 La354 [])) (fun t stp => XS.ifNo X350.here hx rfl (hb hby at_295) rfl (XT.i0_eq_f hc295_355) stp) ?_
          refine own_up (S' := T350.setTop (mkF m 299 La354 [(.long l1)])) (fun t stp => XT.lloadN X350.here hx rfl (hb hby at_298) (by rw [hLa354]; rfl) stp) ?_
          refine own_up (S' := T350.setTop (mkF m 301 La354 [(.long u1), (.long l1)])) (fun t stp => XT.lload X350.here hx rfl (hb hby at_299) (by rw [hLa354]; rfl) stp) ?_
          refine own_up (S' := T350.setTop (mkF m 302 La354 [(.long (l1 - u1))])) (fun t stp => XT.lsub X350.here hx rfl (hb hby at_301) rfl stp) ?_
          refine own_up (S' := T350.setTop (mkF m 306 La354 [(.long (l1 - u1))])) (fun t stp => XS.goto X350.here hx rfl (pc0 := 302) (pc' := 306) rfl (hb hby at_302) (by decide) (by decide) stp) ?_
          obtain ⟨e1q, h_e1q⟩ : ∃ z : Int64, z = (l1 - u1) := ⟨_, rfl⟩
          rw [← h_e1q]
          obtain ⟨La356, hLa356⟩ : ∃ L : Array Slot, L = #[.val (.long l0), .second, .val (.long l1), .second, .val (.long l2), .second, .val (.long u0), .second, .val (.long u1), .second, .val (.int sel), .val (.int mm), .val (.int (0 : Int32)), .val (.int (1 : Int32)), .val (.int (0 : Int32)), .val (.int (0 : Int32)), .val (.long u0), .second, .val (.long u1), .second, .val (.long v2), .second, .val (.long v3), .second, .val (.int (1 : Int32)), .val (.ref ad306), .val (.ref ad310), .val (.int (1 : Int32)), .val (.long l3), .second, .val (.ref ad327), .val (.ref ob), .val (.long l0), .second, .val (.long e1q), .second, .unset, .unset, .unset, .unset] := ⟨_, rfl⟩
          refine own_up (S' := T350.setTop (mkF m 308 La356 [])) (fun t stp => XT.lstore X350.here hx rfl (hb hby at_306) rfl (l' := La356) (by rw [hLa354, hLa356]; rfl) stp) ?_
          refine own_up (S' := T350.setTop (mkF m 310 La356 [(.int (0 : Int32))])) (fun t stp => XS.iload X350.here hx rfl (hb hby at_308) (by rw [hLa356]; rfl) stp) ?_
          have hc310_357 : (0 : Int32) = 0 := hc88_301
          refine own_up (S' := T350.setTop (mkF m 321 La356 [])) (fun t stp => XS.ifYes X350.here hx rfl (pc0 := 310) (pc' := 321) rfl (hb hby at_310) rfl (XT.i0_eq_t hc310_357) (by decide) (by decide) stp) ?_
          refine own_up (S' := T350.setTop (mkF m 323 La356 [(.long l2)])) (fun t stp => XT.lload X350.here hx rfl (hb hby at_321) (by rw [hLa356]; rfl) stp) ?_
          obtain ⟨La358, hLa358⟩ : ∃ L : Array Slot, L = #[.val (.long l0), .second, .val (.long l1), .second, .val (.long l2), .second, .val (.long u0), .second, .val (.long u1), .second, .val (.int sel), .val (.int mm), .val (.int (0 : Int32)), .val (.int (1 : Int32)), .val (.int (0 : Int32)), .val (.int (0 : Int32)), .val (.long u0), .second, .val (.long u1), .second, .val (.long v2), .second, .val (.long v3), .second, .val (.int (1 : Int32)), .val (.ref ad306), .val (.ref ad310), .val (.int (1 : Int32)), .val (.long l3), .second, .val (.ref ad327), .val (.ref ob), .val (.long l0), .second, .val (.long e1q), .second, .val (.long l2), .second, .unset, .unset] := ⟨_, rfl⟩
          refine own_up (S' := T350.setTop (mkF m 325 La358 [])) (fun t stp => XT.lstore X350.here hx rfl (hb hby at_323) rfl (l' := La358) (by rw [hLa356, hLa358]; rfl) stp) ?_
          refine own_up (S' := T350.setTop (mkF m 327 La358 [(.int (0 : Int32))])) (fun t stp => XS.iload X350.here hx rfl (hb hby at_325) (by rw [hLa358]; rfl) stp) ?_
          have hc327_359 : (0 : Int32) = 0 := hc88_301
          refine own_up (S' := T350.setTop (mkF m 338 La358 [])) (fun t stp => XS.ifYes X350.here hx rfl (pc0 := 327) (pc' := 338) rfl (hb hby at_327) rfl (XT.i0_eq_t hc327_359) (by decide) (by decide) stp) ?_
          refine own_up (S' := T350.setTop (mkF m 340 La358 [(.long l3)])) (fun t stp => XT.lload X350.here hx rfl (hb hby at_338) (by rw [hLa358]; rfl) stp) ?_
          obtain ⟨La360, hLa360⟩ : ∃ L : Array Slot, L = #[.val (.long l0), .second, .val (.long l1), .second, .val (.long l2), .second, .val (.long u0), .second, .val (.long u1), .second, .val (.int sel), .val (.int mm), .val (.int (0 : Int32)), .val (.int (1 : Int32)), .val (.int (0 : Int32)), .val (.int (0 : Int32)), .val (.long u0), .second, .val (.long u1), .second, .val (.long v2), .second, .val (.long v3), .second, .val (.int (1 : Int32)), .val (.ref ad306), .val (.ref ad310), .val (.int (1 : Int32)), .val (.long l3), .second, .val (.ref ad327), .val (.ref ob), .val (.long l0), .second, .val (.long e1q), .second, .val (.long l2), .second, .val (.long l3), .second] := ⟨_, rfl⟩
          refine own_up (S' := T350.setTop (mkF m 342 La360 [])) (fun t stp => XT.lstore X350.here hx rfl (hb hby at_340) rfl (l' := La360) (by rw [hLa358, hLa360]; rfl) stp) ?_
          refine own_up (S' := T350.setTop (mkF m 344 La360 [(.ref ad327)])) (fun t stp => XS.aload X350.here hx rfl (hb hby at_342) (by rw [hLa360]; rfl) rfl stp) ?_
          refine own_len X350 hx hZ rfl Tk350 (4 : Int32) (hb hby at_344) (rfl) rfl rfl (g' := (mkF m 345 La360 [(.int (4 : Int32))])) rfl ?_
          refine own_up (S' := T350.setTop (mkF m 346 La360 [(.int (4 : Int32)), (.int (4 : Int32))])) (fun t stp => XT.iconstV X350.here hx rfl (4 : Int32) (hb hby at_345) rfl stp) ?_
          have hc346_361 : (4 : Int32) = (4 : Int32) := rfl
          refine own_up (S' := T350.setTop (mkF m 349 La360 [])) (fun t stp => XS.icmpNo X350.here hx rfl (hb hby at_346) rfl (XT.ii_ne_f hc346_361) stp) ?_
          refine own_up (S' := T350.setTop (mkF m 351 La360 [(.ref ad327)])) (fun t stp => XS.aload X350.here hx rfl (hb hby at_349) (by rw [hLa360]; rfl) rfl stp) ?_
          refine own_up (S' := T350.setTop (mkF m 352 La360 [(.int (0 : Int32)), (.ref ad327)])) (fun t stp => XT.iconstV X350.here hx rfl (0 : Int32) (hb hby at_351) rfl stp) ?_
          refine own_ldj X350 hx hZ rfl Tk350 (v := (.long l0)) 0 (hb hby at_352) (rfl) (rfl) rfl rfl (g' := (mkF m 353 La360 [(.long l0)])) rfl ?_
          refine own_up (S' := T350.setTop (mkF m 355 La360 [(.long l0), (.long l0)])) (fun t stp => XT.lload X350.here hx rfl (hb hby at_353) (by rw [hLa360]; rfl) stp) ?_
          refine own_up (S' := T350.setTop (mkF m 356 La360 [(.int (XT.cmpL l0 l0))])) (fun t stp => XT.lcmp X350.here hx rfl (hb hby at_355) rfl stp) ?_
          have hc356_362 : l0 = l0 := rfl
          have ihc356_362 : l0.toInt = l0.toInt := own_leq hc356_362
          refine own_up (S' := T350.setTop (mkF m 359 La360 [])) (fun t stp => XS.ifNo X350.here hx rfl (hb hby at_356) rfl (XT.ll_ne_f hc356_362) stp) ?_
          refine own_up (S' := T350.setTop (mkF m 361 La360 [(.ref ad327)])) (fun t stp => XS.aload X350.here hx rfl (hb hby at_359) (by rw [hLa360]; rfl) rfl stp) ?_
          refine own_up (S' := T350.setTop (mkF m 362 La360 [(.int (1 : Int32)), (.ref ad327)])) (fun t stp => XT.iconstV X350.here hx rfl (1 : Int32) (hb hby at_361) rfl stp) ?_
          refine own_ldj X350 hx hZ rfl Tk350 (v := (.long (l1 - u1))) 1 (hb hby at_362) (rfl) (rfl) rfl rfl (g' := (mkF m 363 La360 [(.long (l1 - u1))])) rfl ?_
          refine own_up (S' := T350.setTop (mkF m 365 La360 [(.long e1q), (.long (l1 - u1))])) (fun t stp => XT.lload X350.here hx rfl (hb hby at_363) (by rw [hLa360]; rfl) stp) ?_
          refine own_up (S' := T350.setTop (mkF m 366 La360 [(.int (XT.cmpL (l1 - u1) e1q))])) (fun t stp => XT.lcmp X350.here hx rfl (hb hby at_365) rfl stp) ?_
          have hc366_363 : (l1 - u1) = e1q := h_e1q.symm
          have ihc366_363 : (l1 - u1).toInt = e1q.toInt := own_leq hc366_363
          refine own_up (S' := T350.setTop (mkF m 369 La360 [])) (fun t stp => XS.ifNo X350.here hx rfl (hb hby at_366) rfl (XT.ll_ne_f hc366_363) stp) ?_
          refine own_up (S' := T350.setTop (mkF m 371 La360 [(.ref ad327)])) (fun t stp => XS.aload X350.here hx rfl (hb hby at_369) (by rw [hLa360]; rfl) rfl stp) ?_
          refine own_up (S' := T350.setTop (mkF m 372 La360 [(.int (2 : Int32)), (.ref ad327)])) (fun t stp => XT.iconstV X350.here hx rfl (2 : Int32) (hb hby at_371) rfl stp) ?_
          refine own_ldj X350 hx hZ rfl Tk350 (v := (.long l2)) 2 (hb hby at_372) (rfl) (rfl) rfl rfl (g' := (mkF m 373 La360 [(.long l2)])) rfl ?_
          refine own_up (S' := T350.setTop (mkF m 375 La360 [(.long l2), (.long l2)])) (fun t stp => XT.lload X350.here hx rfl (hb hby at_373) (by rw [hLa360]; rfl) stp) ?_
          refine own_up (S' := T350.setTop (mkF m 376 La360 [(.int (XT.cmpL l2 l2))])) (fun t stp => XT.lcmp X350.here hx rfl (hb hby at_375) rfl stp) ?_
          have hc376_364 : l2 = l2 := rfl
          have ihc376_364 : l2.toInt = l2.toInt := own_leq hc376_364
          refine own_up (S' := T350.setTop (mkF m 379 La360 [])) (fun t stp => XS.ifNo X350.here hx rfl (hb hby at_376) rfl (XT.ll_ne_f hc376_364) stp) ?_
          refine own_up (S' := T350.setTop (mkF m 381 La360 [(.ref ad327)])) (fun t stp => XS.aload X350.here hx rfl (hb hby at_379) (by rw [hLa360]; rfl) rfl stp) ?_
          refine own_up (S' := T350.setTop (mkF m 382 La360 [(.int (3 : Int32)), (.ref ad327)])) (fun t stp => XT.iconstV X350.here hx rfl (3 : Int32) (hb hby at_381) rfl stp) ?_
          refine own_ldj X350 hx hZ rfl Tk350 (v := (.long l3)) 3 (hb hby at_382) (rfl) (rfl) rfl rfl (g' := (mkF m 383 La360 [(.long l3)])) rfl ?_
          refine own_up (S' := T350.setTop (mkF m 385 La360 [(.long l3), (.long l3)])) (fun t stp => XT.lload X350.here hx rfl (hb hby at_383) (by rw [hLa360]; rfl) stp) ?_
          refine own_up (S' := T350.setTop (mkF m 386 La360 [(.int (XT.cmpL l3 l3))])) (fun t stp => XT.lcmp X350.here hx rfl (hb hby at_385) rfl stp) ?_
          have hc386_365 : l3 = l3 := rfl
          have ihc386_365 : l3.toInt = l3.toInt := own_leq hc386_365
          refine own_up (S' := T350.setTop (mkF m 389 La360 [])) (fun t stp => XS.ifNo X350.here hx rfl (hb hby at_386) rfl (XT.ll_ne_f hc386_365) stp) ?_
          refine own_up (S' := T350.setTop (mkF m 390 La360 [(.int (1 : Int32))])) (fun t stp => XT.iconstV X350.here hx rfl (1 : Int32) (hb hby at_389) rfl stp) ?_
          refine own_up (S' := T350.setTop (mkF m 394 La360 [(.int (1 : Int32))])) (fun t stp => XS.goto X350.here hx rfl (pc0 := 390) (pc' := 394) rfl (hb hby at_390) (by decide) (by decide) stp) ?_
          refine own_retN X350 hx hlk (t := .boolean) hret (by simp) (z' := (1 : Int32)) rfl (hb hby at_394) (by decide) (by decide) ?_
          show own_Q0 Z l0 l1 l2 u0 u1 sel h0 n0 _ T350.heap _
          exact ⟨rfl, N350⟩
        · have ihc54_295 : (mm &&& (8 : Int32)).toInt ≠ 0 := own_ine hc54_295
          refine own_up (S' := T0.setTop (mkF m 57 La294 [])) (fun t stp => XS.ifNo X0.here hx rfl (hb hby at_54) rfl (XT.i0_eq_f hc54_295) stp) ?_
          refine own_up (S' := T0.setTop (mkF m 58 La294 [(.int (1 : Int32))])) (fun t stp => XT.iconstV X0.here hx rfl (1 : Int32) (hb hby at_57) rfl stp) ?_
          refine own_up (S' := T0.setTop (mkF m 62 La294 [(.int (1 : Int32))])) (fun t stp => XS.goto X0.here hx rfl (pc0 := 58) (pc' := 62) rfl (hb hby at_58) (by decide) (by decide) stp) ?_
          obtain ⟨La366, hLa366⟩ : ∃ L : Array Slot, L = #[.val (.long l0), .second, .val (.long l1), .second, .val (.long l2), .second, .val (.long u0), .second, .val (.long u1), .second, .val (.int sel), .val (.int mm), .val (.int (0 : Int32)), .val (.int (1 : Int32)), .val (.int (0 : Int32)), .val (.int (1 : Int32)), .unset, .unset, .unset, .unset, .unset, .unset, .unset, .unset, .unset, .unset, .unset, .unset, .unset, .unset, .unset, .unset, .unset, .unset, .unset, .unset, .unset, .unset, .unset, .unset] := ⟨_, rfl⟩
          refine own_up (S' := T0.setTop (mkF m 64 La366 [])) (fun t stp => XS.istore X0.here hx rfl (hb hby at_62) rfl (l' := La366) (by rw [hLa294, hLa366]; rfl) stp) ?_
          refine own_up (S' := T0.setTop (mkF m 66 La366 [(.long u0)])) (fun t stp => XT.lload X0.here hx rfl (hb hby at_64) (by rw [hLa366]; rfl) stp) ?_
          obtain ⟨La367, hLa367⟩ : ∃ L : Array Slot, L = #[.val (.long l0), .second, .val (.long l1), .second, .val (.long l2), .second, .val (.long u0), .second, .val (.long u1), .second, .val (.int sel), .val (.int mm), .val (.int (0 : Int32)), .val (.int (1 : Int32)), .val (.int (0 : Int32)), .val (.int (1 : Int32)), .val (.long u0), .second, .unset, .unset, .unset, .unset, .unset, .unset, .unset, .unset, .unset, .unset, .unset, .unset, .unset, .unset, .unset, .unset, .unset, .unset, .unset, .unset, .unset, .unset] := ⟨_, rfl⟩
          refine own_up (S' := T0.setTop (mkF m 68 La367 [])) (fun t stp => XT.lstore X0.here hx rfl (hb hby at_66) rfl (l' := La367) (by rw [hLa366, hLa367]; rfl) stp) ?_
          refine own_up (S' := T0.setTop (mkF m 70 La367 [(.long u1)])) (fun t stp => XT.lload X0.here hx rfl (hb hby at_68) (by rw [hLa367]; rfl) stp) ?_
          obtain ⟨La368, hLa368⟩ : ∃ L : Array Slot, L = #[.val (.long l0), .second, .val (.long l1), .second, .val (.long l2), .second, .val (.long u0), .second, .val (.long u1), .second, .val (.int sel), .val (.int mm), .val (.int (0 : Int32)), .val (.int (1 : Int32)), .val (.int (0 : Int32)), .val (.int (1 : Int32)), .val (.long u0), .second, .val (.long u1), .second, .unset, .unset, .unset, .unset, .unset, .unset, .unset, .unset, .unset, .unset, .unset, .unset, .unset, .unset, .unset, .unset, .unset, .unset, .unset, .unset] := ⟨_, rfl⟩
          refine own_up (S' := T0.setTop (mkF m 72 La368 [])) (fun t stp => XT.lstore X0.here hx rfl (hb hby at_70) rfl (l' := La368) (by rw [hLa367, hLa368]; rfl) stp) ?_
          refine own_up (S' := T0.setTop (mkF m 74 La368 [(.long u0)])) (fun t stp => XT.lload X0.here hx rfl (hb hby at_72) (by rw [hLa368]; rfl) stp) ?_
          refine own_up (S' := T0.setTop (mkF m 76 La368 [(.long u1), (.long u0)])) (fun t stp => XT.lload X0.here hx rfl (hb hby at_74) (by rw [hLa368]; rfl) stp) ?_
          refine own_up (S' := T0.setTop (mkF m 77 La368 [(.long (u0 - u1))])) (fun t stp => XT.lsub X0.here hx rfl (hb hby at_76) rfl stp) ?_
          obtain ⟨v2, h_v2⟩ : ∃ z : Int64, z = (u0 - u1) := ⟨_, rfl⟩
          rw [← h_v2]
          obtain ⟨La369, hLa369⟩ : ∃ L : Array Slot, L = #[.val (.long l0), .second, .val (.long l1), .second, .val (.long l2), .second, .val (.long u0), .second, .val (.long u1), .second, .val (.int sel), .val (.int mm), .val (.int (0 : Int32)), .val (.int (1 : Int32)), .val (.int (0 : Int32)), .val (.int (1 : Int32)), .val (.long u0), .second, .val (.long u1), .second, .val (.long v2), .second, .unset, .unset, .unset, .unset, .unset, .unset, .unset, .unset, .unset, .unset, .unset, .unset, .unset, .unset, .unset, .unset, .unset, .unset] := ⟨_, rfl⟩
          refine own_up (S' := T0.setTop (mkF m 79 La369 [])) (fun t stp => XT.lstore X0.here hx rfl (hb hby at_77) rfl (l' := La369) (by rw [hLa368, hLa369]; rfl) stp) ?_
          refine own_up (S' := T0.setTop (mkF m 81 La369 [(.long u1)])) (fun t stp => XT.lload X0.here hx rfl (hb hby at_79) (by rw [hLa369]; rfl) stp) ?_
          refine own_up (S' := T0.setTop (mkF m 83 La369 [(.long l2), (.long u1)])) (fun t stp => XT.lload X0.here hx rfl (hb hby at_81) (by rw [hLa369]; rfl) stp) ?_
          refine own_up (S' := T0.setTop (mkF m 84 La369 [(.long (u1 ^^^ l2))])) (fun t stp => XT.lxor X0.here hx rfl (hb hby at_83) rfl stp) ?_
          obtain ⟨v3, h_v3⟩ : ∃ z : Int64, z = (u1 ^^^ l2) := ⟨_, rfl⟩
          rw [← h_v3]
          obtain ⟨La370, hLa370⟩ : ∃ L : Array Slot, L = #[.val (.long l0), .second, .val (.long l1), .second, .val (.long l2), .second, .val (.long u0), .second, .val (.long u1), .second, .val (.int sel), .val (.int mm), .val (.int (0 : Int32)), .val (.int (1 : Int32)), .val (.int (0 : Int32)), .val (.int (1 : Int32)), .val (.long u0), .second, .val (.long u1), .second, .val (.long v2), .second, .val (.long v3), .second, .unset, .unset, .unset, .unset, .unset, .unset, .unset, .unset, .unset, .unset, .unset, .unset, .unset, .unset, .unset, .unset] := ⟨_, rfl⟩
          refine own_up (S' := T0.setTop (mkF m 86 La370 [])) (fun t stp => XT.lstore X0.here hx rfl (hb hby at_84) rfl (l' := La370) (by rw [hLa369, hLa370]; rfl) stp) ?_
          refine own_up (S' := T0.setTop (mkF m 88 La370 [(.int (0 : Int32))])) (fun t stp => XS.iload X0.here hx rfl (hb hby at_86) (by rw [hLa370]; rfl) stp) ?_
          have hc88_371 : (0 : Int32) = 0 := by decide
          refine own_up (S' := T0.setTop (mkF m 95 La370 [])) (fun t stp => XS.ifYes X0.here hx rfl (pc0 := 88) (pc' := 95) rfl (hb hby at_88) rfl (XT.i0_eq_t hc88_371) (by decide) (by decide) stp) ?_
          refine own_up (S' := T0.setTop (mkF m 96 La370 [(.int (0 : Int32))])) (fun t stp => XT.iconstV X0.here hx rfl (0 : Int32) (hb hby at_95) rfl stp) ?_
          refine own_up (S' := T0.setTop (mkF m 98 La370 [(.int (1 : Int32)), (.int (0 : Int32))])) (fun t stp => XS.iload X0.here hx rfl (hb hby at_96) (by rw [hLa370]; rfl) stp) ?_
          have hc98_372 : ¬ ((1 : Int32) = 0) := by decide
          refine own_up (S' := T0.setTop (mkF m 101 La370 [(.int (0 : Int32))])) (fun t stp => XS.ifNo X0.here hx rfl (hb hby at_98) rfl (XT.i0_eq_f hc98_372) stp) ?_
          refine own_up (S' := T0.setTop (mkF m 102 La370 [(.int (1 : Int32)), (.int (0 : Int32))])) (fun t stp => XT.iconstV X0.here hx rfl (1 : Int32) (hb hby at_101) rfl stp) ?_
          refine own_up (S' := T0.setTop (mkF m 106 La370 [(.int (1 : Int32)), (.int (0 : Int32))])) (fun t stp => XS.goto X0.here hx rfl (pc0 := 102) (pc' := 106) rfl (hb hby at_102) (by decide) (by decide) stp) ?_
          refine own_up (S' := T0.setTop (mkF m 107 La370 [(.int ((0 : Int32) + (1 : Int32)))])) (fun t stp => XS.iadd X0.here hx rfl (hb hby at_106) rfl stp) ?_
          refine own_up (S' := T0.setTop (mkF m 109 La370 [(.int (0 : Int32)), (.int ((0 : Int32) + (1 : Int32)))])) (fun t stp => XS.iload X0.here hx rfl (hb hby at_107) (by rw [hLa370]; rfl) stp) ?_
          have hc109_373 : (0 : Int32) = 0 := hc88_371
          refine own_up (S' := T0.setTop (mkF m 116 La370 [(.int ((0 : Int32) + (1 : Int32)))])) (fun t stp => XS.ifYes X0.here hx rfl (pc0 := 109) (pc' := 116) rfl (hb hby at_109) rfl (XT.i0_eq_t hc109_373) (by decide) (by decide) stp) ?_
          refine own_up (S' := T0.setTop (mkF m 117 La370 [(.int (0 : Int32)), (.int ((0 : Int32) + (1 : Int32)))])) (fun t stp => XT.iconstV X0.here hx rfl (0 : Int32) (hb hby at_116) rfl stp) ?_
          refine own_up (S' := T0.setTop (mkF m 118 La370 [(.int (((0 : Int32) + (1 : Int32)) + (0 : Int32)))])) (fun t stp => XS.iadd X0.here hx rfl (hb hby at_117) rfl stp) ?_
          refine own_up (S' := T0.setTop (mkF m 120 La370 [(.int (1 : Int32)), (.int (((0 : Int32) + (1 : Int32)) + (0 : Int32)))])) (fun t stp => XS.iload X0.here hx rfl (hb hby at_118) (by rw [hLa370]; rfl) stp) ?_
          have hc120_374 : ¬ ((1 : Int32) = 0) := hc98_372
          refine own_up (S' := T0.setTop (mkF m 123 La370 [(.int (((0 : Int32) + (1 : Int32)) + (0 : Int32)))])) (fun t stp => XS.ifNo X0.here hx rfl (hb hby at_120) rfl (XT.i0_eq_f hc120_374) stp) ?_
          refine own_up (S' := T0.setTop (mkF m 124 La370 [(.int (1 : Int32)), (.int (((0 : Int32) + (1 : Int32)) + (0 : Int32)))])) (fun t stp => XT.iconstV X0.here hx rfl (1 : Int32) (hb hby at_123) rfl stp) ?_
          refine own_up (S' := T0.setTop (mkF m 128 La370 [(.int (1 : Int32)), (.int (((0 : Int32) + (1 : Int32)) + (0 : Int32)))])) (fun t stp => XS.goto X0.here hx rfl (pc0 := 124) (pc' := 128) rfl (hb hby at_124) (by decide) (by decide) stp) ?_
          refine own_up (S' := T0.setTop (mkF m 129 La370 [(.int ((((0 : Int32) + (1 : Int32)) + (0 : Int32)) + (1 : Int32)))])) (fun t stp => XS.iadd X0.here hx rfl (hb hby at_128) rfl stp) ?_
          show own_Ends p e below s (own_Q0 Z l0 l1 l2 u0 u1 sel h0 n0) room_1.cells room_1.slots (T0.setTop (mkF m 129 La370 [(.int (2 : Int32))]))
          obtain ⟨La375, hLa375⟩ : ∃ L : Array Slot, L = #[.val (.long l0), .second, .val (.long l1), .second, .val (.long l2), .second, .val (.long u0), .second, .val (.long u1), .second, .val (.int sel), .val (.int mm), .val (.int (0 : Int32)), .val (.int (1 : Int32)), .val (.int (0 : Int32)), .val (.int (1 : Int32)), .val (.long u0), .second, .val (.long u1), .second, .val (.long v2), .second, .val (.long v3), .second, .val (.int (2 : Int32)), .unset, .unset, .unset, .unset, .unset, .unset, .unset, .unset, .unset, .unset, .unset, .unset, .unset, .unset, .unset] := ⟨_, rfl⟩
          refine own_up (S' := T0.setTop (mkF m 131 La375 [])) (fun t stp => XS.istore X0.here hx rfl (hb hby at_129) rfl (l' := La375) (by rw [hLa370, hLa375]; rfl) stp) ?_
          refine own_up (S' := T0.setTop (mkF m 133 La375 [(.int (2 : Int32))])) (fun t stp => XS.iload X0.here hx rfl (hb hby at_131) (by rw [hLa375]; rfl) stp) ?_
          refine own_newa X0 hx hZ (ty := .int) rfl (hw _ (List.mem_of_getElem? (i := 0) rfl)) e0 2 (hb hby at_133) (rfl) 2 (by decide) (by decide) (by decide) (by decide) rfl rfl ?_
          intro T376 h376 ad376 hb376 X376 e376 E376 A376
          have g_ad376 : n0 ≤ ad376 := Nat.le_trans Z0 (Nat.le_of_eq hb376.symm)
          have Zn377 := Nat.le_trans Z0 E376.1
          have Al376 : own_Al Z h376 ad376 .int [(.int (0 : Int32)), (.int (0 : Int32))] := A376
          show own_Ends p e below s (own_Q0 Z l0 l1 l2 u0 u1 sel h0 n0) room_1.cells room_1.slots (T376.setTop (mkF m 135 La375 [(.ref ad376)]))
          obtain ⟨La379, hLa379⟩ : ∃ L : Array Slot, L = #[.val (.long l0), .second, .val (.long l1), .second, .val (.long l2), .second, .val (.long u0), .second, .val (.long u1), .second, .val (.int sel), .val (.int mm), .val (.int (0 : Int32)), .val (.int (1 : Int32)), .val (.int (0 : Int32)), .val (.int (1 : Int32)), .val (.long u0), .second, .val (.long u1), .second, .val (.long v2), .second, .val (.long v3), .second, .val (.int (2 : Int32)), .val (.ref ad376), .unset, .unset, .unset, .unset, .unset, .unset, .unset, .unset, .unset, .unset, .unset, .unset, .unset, .unset] := ⟨_, rfl⟩
          refine own_up (S' := T376.setTop (mkF m 137 La379 [])) (fun t stp => XS.astore X376.here hx rfl (hb hby at_135) rfl rfl (l' := La379) (by rw [hLa375, hLa379]; rfl) stp) ?_
          refine own_up (S' := T376.setTop (mkF m 139 La379 [(.int (2 : Int32))])) (fun t stp => XS.iload X376.here hx rfl (hb hby at_137) (by rw [hLa379]; rfl) stp) ?_
          refine own_newa X376 hx hZ (ty := .long) rfl (hw _ (List.mem_of_getElem? (i := 1) rfl)) e376 2 (hb hby at_139) (rfl) 2 (by decide) (by decide) (by decide) (by decide) rfl rfl ?_
          intro T380 h380 ad380 hb380 X380 e380 E380 A380
          have ne380_ad376_ad380 : ad376 ≠ ad380 := Nat.ne_of_lt (Nat.lt_of_lt_of_eq (own_Al_lt Al376) hb380.symm)
          have g_ad380 : n0 ≤ ad380 := Nat.le_trans Zn377 (Nat.le_of_eq hb380.symm)
          have Zn381 := Nat.le_trans Zn377 E380.1
          have Al376_382 := own_Al_ext E380 Al376
          have Al380 : own_Al Z h380 ad380 .long [(.long (0 : Int64)), (.long (0 : Int64))] := A380
          show own_Ends p e below s (own_Q0 Z l0 l1 l2 u0 u1 sel h0 n0) room_1.cells room_1.slots (T380.setTop (mkF m 141 La379 [(.ref ad380)]))
          obtain ⟨La383, hLa383⟩ : ∃ L : Array Slot, L = #[.val (.long l0), .second, .val (.long l1), .second, .val (.long l2), .second, .val (.long u0), .second, .val (.long u1), .second, .val (.int sel), .val (.int mm), .val (.int (0 : Int32)), .val (.int (1 : Int32)), .val (.int (0 : Int32)), .val (.int (1 : Int32)), .val (.long u0), .second, .val (.long u1), .second, .val (.long v2), .second, .val (.long v3), .second, .val (.int (2 : Int32)), .val (.ref ad376), .val (.ref ad380), .unset, .unset, .unset, .unset, .unset, .unset, .unset, .unset, .unset, .unset, .unset, .unset, .unset] := ⟨_, rfl⟩
          refine own_up (S' := T380.setTop (mkF m 143 La383 [])) (fun t stp => XS.astore X380.here hx rfl (hb hby at_141) rfl rfl (l' := La383) (by rw [hLa379, hLa383]; rfl) stp) ?_
          refine own_up (S' := T380.setTop (mkF m 144 La383 [(.int (0 : Int32))])) (fun t stp => XT.iconstV X380.here hx rfl (0 : Int32) (hb hby at_143) rfl stp) ?_
          obtain ⟨La384, hLa384⟩ : ∃ L : Array Slot, L = #[.val (.long l0), .second, .val (.long l1), .second, .val (.long l2), .second, .val (.long u0), .second, .val (.long u1), .second, .val (.int sel), .val (.int mm), .val (.int (0 : Int32)), .val (.int (1 : Int32)), .val (.int (0 : Int32)), .val (.int (1 : Int32)), .val (.long u0), .second, .val (.long u1), .second, .val (.long v2), .second, .val (.long v3), .second, .val (.int (2 : Int32)), .val (.ref ad376), .val (.ref ad380), .val (.int (0 : Int32)), .unset, .unset, .unset, .unset, .unset, .unset, .unset, .unset, .unset, .unset, .unset, .unset] := ⟨_, rfl⟩
          refine own_up (S' := T380.setTop (mkF m 146 La384 [])) (fun t stp => XS.istore X380.here hx rfl (hb hby at_144) rfl (l' := La384) (by rw [hLa383, hLa384]; rfl) stp) ?_
          refine own_up (S' := T380.setTop (mkF m 148 La384 [(.int (0 : Int32))])) (fun t stp => XS.iload X380.here hx rfl (hb hby at_146) (by rw [hLa384]; rfl) stp) ?_
          have hc148_385 : (0 : Int32) = 0 := hc88_371
          refine own_up (S' := T380.setTop (mkF m 167 La384 [])) (fun t stp => XS.ifYes X380.here hx rfl (pc0 := 148) (pc' := 167) rfl (hb hby at_148) rfl (XT.i0_eq_t hc148_385) (by decide) (by decide) stp) ?_
          refine own_up (S' := T380.setTop (mkF m 169 La384 [(.int (1 : Int32))])) (fun t stp => XS.iload X380.here hx rfl (hb hby at_167) (by rw [hLa384]; rfl) stp) ?_
          have hc169_386 : ¬ ((1 : Int32) = 0) := hc98_372
          refine own_up (S' := T380.setTop (mkF m 172 La384 [])) (fun t stp => XS.ifNo X380.here hx rfl (hb hby at_169) rfl (XT.i0_eq_f hc169_386) stp) ?_
          refine own_up (S' := T380.setTop (mkF m 174 La384 [(.ref ad376)])) (fun t stp => XS.aload X380.here hx rfl (hb hby at_172) (by rw [hLa384]; rfl) rfl stp) ?_
          refine own_up (S' := T380.setTop (mkF m 176 La384 [(.int (0 : Int32)), (.ref ad376)])) (fun t stp => XS.iload X380.here hx rfl (hb hby at_174) (by rw [hLa384]; rfl) stp) ?_
          refine own_up (S' := T380.setTop (mkF m 177 La384 [(.int (1 : Int32)), (.int (0 : Int32)), (.ref ad376)])) (fun t stp => XT.iconstV X380.here hx rfl (1 : Int32) (hb hby at_176) rfl stp) ?_
          refine own_sti X380 hx hZ e380 Al376_382 0 (hb hby at_177) (rfl) (Nat.le_of_ble_eq_true rfl) rfl rfl (g' := (mkF m 178 La384 [])) rfl ?_
          intro T387 h387 X387 e387 W387 B387
          have Zn388 := Nat.le_trans Zn381 (Nat.le_of_eq W387.size.symm)
          have Al380_389 := own_Al_oth W387 Al380 (Ne.symm ne380_ad376_ad380)
          have N387 := Fr.snoc X387 N0 g_ad376
          have Al387 : own_Al Z h387 ad376 .int [(.int (1 : Int32)), (.int (0 : Int32))] := B387
          refine own_up (S' := T387.setTop (mkF m 180 La384 [(.ref ad380)])) (fun t stp => XS.aload X387.here hx rfl (hb hby at_178) (by rw [hLa384]; rfl) rfl stp) ?_
          refine own_up (S' := T387.setTop (mkF m 182 La384 [(.int (0 : Int32)), (.ref ad380)])) (fun t stp => XS.iload X387.here hx rfl (hb hby at_180) (by rw [hLa384]; rfl) stp) ?_
          refine own_up (S' := T387.setTop (mkF m 184 La384 [(.long u1), (.int (0 : Int32)), (.ref ad380)])) (fun t stp => XT.lload X387.here hx rfl (hb hby at_182) (by rw [hLa384]; rfl) stp) ?_
          refine own_stj X387 hx hZ e387 Al380_389 0 (hb hby at_184) (rfl) (Nat.le_of_ble_eq_true rfl) rfl rfl (g' := (mkF m 185 La384 [])) rfl ?_
          intro T390 h390 X390 e390 W390 B390
          have Zn391 := Nat.le_trans Zn388 (Nat.le_of_eq W390.size.symm)
          have Al387_392 := own_Al_oth W390 Al387 ne380_ad376_ad380
          have N390 := Fr.snoc X390 N387 g_ad380
          have Al390 : own_Al Z h390 ad380 .long [(.long u1), (.long (0 : Int64))] := B390
          obtain ⟨La393, hLa393⟩ : ∃ L : Array Slot, L = #[.val (.long l0), .second, .val (.long l1), .second, .val (.long l2), .second, .val (.long u0), .second, .val (.long u1), .second, .val (.int sel), .val (.int mm), .val (.int (0 : Int32)), .val (.int (1 : Int32)), .val (.int (0 : Int32)), .val (.int (1 : Int32)), .val (.long u0), .second, .val (.long u1), .second, .val (.long v2), .second, .val (.long v3), .second, .val (.int (2 : Int32)), .val (.ref ad376), .val (.ref ad380), .val (.int (1 : Int32)), .unset, .unset, .unset, .unset, .unset, .unset, .unset, .unset, .unset, .unset, .unset, .unset] := ⟨_, rfl⟩
          refine own_up (S' := T390.setTop (mkF m 188 La393 [])) (fun t stp => XT.iincV X390.here hx rfl (1 : Int32) (hb hby at_185) rfl (by rw [hLa384]; rfl) (l' := La393) (by rw [hLa384, hLa393]; rfl) stp) ?_
          refine own_up (S' := T390.setTop (mkF m 190 La393 [(.int (0 : Int32))])) (fun t stp => XS.iload X390.here hx rfl (hb hby at_188) (by rw [hLa393]; rfl) stp) ?_
          have hc190_394 : (0 : Int32) = 0 := hc88_371
          refine own_up (S' := T390.setTop (mkF m 209 La393 [])) (fun t stp => XS.ifYes X390.here hx rfl (pc0 := 190) (pc' := 209) rfl (hb hby at_190) rfl (XT.i0_eq_t hc190_394) (by decide) (by decide) stp) ?_
          refine own_up (S' := T390.setTop (mkF m 211 La393 [(.int (1 : Int32))])) (fun t stp => XS.iload X390.here hx rfl (hb hby at_209) (by rw [hLa393]; rfl) stp) ?_
          have hc211_395 : ¬ ((1 : Int32) = 0) := hc98_372
          refine own_up (S' := T390.setTop (mkF m 214 La393 [])) (fun t stp => XS.ifNo X390.here hx rfl (hb hby at_211) rfl (XT.i0_eq_f hc211_395) stp) ?_
          refine own_up (S' := T390.setTop (mkF m 216 La393 [(.ref ad376)])) (fun t stp => XS.aload X390.here hx rfl (hb hby at_214) (by rw [hLa393]; rfl) rfl stp) ?_
          refine own_up (S' := T390.setTop (mkF m 218 La393 [(.int (1 : Int32)), (.ref ad376)])) (fun t stp => XS.iload X390.here hx rfl (hb hby at_216) (by rw [hLa393]; rfl) stp) ?_
          refine own_up (S' := T390.setTop (mkF m 219 La393 [(.int (3 : Int32)), (.int (1 : Int32)), (.ref ad376)])) (fun t stp => XT.iconstV X390.here hx rfl (3 : Int32) (hb hby at_218) rfl stp) ?_
          refine own_sti X390 hx hZ e390 Al387_392 1 (hb hby at_219) (rfl) (Nat.le_of_ble_eq_true rfl) rfl rfl (g' := (mkF m 220 La393 [])) rfl ?_
          intro T396 h396 X396 e396 W396 B396
          have Zn397 := Nat.le_trans Zn391 (Nat.le_of_eq W396.size.symm)
          have Al390_398 := own_Al_oth W396 Al390 (Ne.symm ne380_ad376_ad380)
          have N396 := Fr.snoc X396 N390 g_ad376
          have Al396 : own_Al Z h396 ad376 .int [(.int (1 : Int32)), (.int (3 : Int32))] := B396
          refine own_up (S' := T396.setTop (mkF m 222 La393 [(.ref ad380)])) (fun t stp => XS.aload X396.here hx rfl (hb hby at_220) (by rw [hLa393]; rfl) rfl stp) ?_
          refine own_up (S' := T396.setTop (mkF m 224 La393 [(.int (1 : Int32)), (.ref ad380)])) (fun t stp => XS.iload X396.here hx rfl (hb hby at_222) (by rw [hLa393]; rfl) stp) ?_
          refine own_up (S' := T396.setTop (mkF m 226 La393 [(.long v3), (.int (1 : Int32)), (.ref ad380)])) (fun t stp => XT.lload X396.here hx rfl (hb hby at_224) (by rw [hLa393]; rfl) stp) ?_
          refine own_stj X396 hx hZ e396 Al390_398 1 (hb hby at_226) (rfl) (Nat.le_of_ble_eq_true rfl) rfl rfl (g' := (mkF m 227 La393 [])) rfl ?_
          intro T399 h399 X399 e399 W399 B399
          have Zn400 := Nat.le_trans Zn397 (Nat.le_of_eq W399.size.symm)
          have Al396_401 := own_Al_oth W399 Al396 ne380_ad376_ad380
          have N399 := Fr.snoc X399 N396 g_ad380
          have Al399 : own_Al Z h399 ad380 .long [(.long u1), (.long v3)] := B399
          obtain ⟨La402, hLa402⟩ : ∃ L : Array Slot, L = #[.val (.long l0), .second, .val (.long l1), .second, .val (.long l2), .second, .val (.long u0), .second, .val (.long u1), .second, .val (.int sel), .val (.int mm), .val (.int (0 : Int32)), .val (.int (1 : Int32)), .val (.int (0 : Int32)), .val (.int (1 : Int32)), .val (.long u0), .second, .val (.long u1), .second, .val (.long v2), .second, .val (.long v3), .second, .val (.int (2 : Int32)), .val (.ref ad376), .val (.ref ad380), .val (.int (2 : Int32)), .unset, .unset, .unset, .unset, .unset, .unset, .unset, .unset, .unset, .unset, .unset, .unset] := ⟨_, rfl⟩
          refine own_up (S' := T399.setTop (mkF m 230 La402 [])) (fun t stp => XT.iincV X399.here hx rfl (1 : Int32) (hb hby at_227) rfl (by rw [hLa393]; rfl) (l' := La402) (by rw [hLa393, hLa402]; rfl) stp) ?_
          refine own_up (S' := T399.setTop (mkF m 231 La402 [(.long l0)])) (fun t stp => XT.lloadN X399.here hx rfl (hb hby at_230) (by rw [hLa402]; rfl) stp) ?_
          refine own_up (S' := T399.setTop (mkF m 232 La402 [(.long l1), (.long l0)])) (fun t stp => XT.lloadN X399.here hx rfl (hb hby at_231) (by rw [hLa402]; rfl) stp) ?_
          refine own_up (S' := T399.setTop (mkF m 233 La402 [(.long (l0 ^^^ l1))])) (fun t stp => XT.lxor X399.here hx rfl (hb hby at_232) rfl stp) ?_
          obtain ⟨l3, h_l3⟩ : ∃ z : Int64, z = (l0 ^^^ l1) := ⟨_, rfl⟩
          rw [← h_l3]
          obtain ⟨La403, hLa403⟩ : ∃ L : Array Slot, L = #[.val (.long l0), .second, .val (.long l1), .second, .val (.long l2), .second, .val (.long u0), .second, .val (.long u1), .second, .val (.int sel), .val (.int mm), .val (.int (0 : Int32)), .val (.int (1 : Int32)), .val (.int (0 : Int32)), .val (.int (1 : Int32)), .val (.long u0), .second, .val (.long u1), .second, .val (.long v2), .second, .val (.long v3), .second, .val (.int (2 : Int32)), .val (.ref ad376), .val (.ref ad380), .val (.int (2 : Int32)), .val (.long l3), .second, .unset, .unset, .unset, .unset, .unset, .unset, .unset, .unset, .unset, .unset] := ⟨_, rfl⟩
          refine own_up (S' := T399.setTop (mkF m 235 La403 [])) (fun t stp => XT.lstore X399.here hx rfl (hb hby at_233) rfl (l' := La403) (by rw [hLa402, hLa403]; rfl) stp) ?_
          refine own_up (S' := T399.setTop (mkF m 236 La403 [(.int (4 : Int32))])) (fun t stp => XT.iconstV X399.here hx rfl (4 : Int32) (hb hby at_235) rfl stp) ?_
          refine own_newa X399 hx hZ (ty := .long) rfl (hw _ (List.mem_of_getElem? (i := 1) rfl)) e399 4 (hb hby at_236) (rfl) 4 (by decide) (by decide) (by decide) (by decide) rfl rfl ?_
          intro T404 h404 ad404 hb404 X404 e404 E404 A404
          have ne404_ad376_ad404 : ad376 ≠ ad404 := Nat.ne_of_lt (Nat.lt_of_lt_of_eq (own_Al_lt Al396_401) hb404.symm)
          have ne404_ad380_ad404 : ad380 ≠ ad404 := Nat.ne_of_lt (Nat.lt_of_lt_of_eq (own_Al_lt Al399) hb404.symm)
          have g_ad404 : n0 ≤ ad404 := Nat.le_trans Zn400 (Nat.le_of_eq hb404.symm)
          have Zn405 := Nat.le_trans Zn400 E404.1
          have Al396_406 := own_Al_ext E404 Al396_401
          have Al399_406 := own_Al_ext E404 Al399
          have Al404 : own_Al Z h404 ad404 .long [(.long (0 : Int64)), (.long (0 : Int64)), (.long (0 : Int64)), (.long (0 : Int64))] := A404
          show own_Ends p e below s (own_Q0 Z l0 l1 l2 u0 u1 sel h0 n0) room_1.cells room_1.slots (T404.setTop (mkF m 238 La403 [(.ref ad404)]))
          refine own_up (S' := T404.setTop (mkF m 239 La403 [(.ref ad404), (.ref ad404)])) (fun t stp => XS.dup X404.here hx rfl (hb hby at_238) rfl rfl stp) ?_
          refine own_up (S' := T404.setTop (mkF m 240 La403 [(.int (0 : Int32)), (.ref ad404), (.ref ad404)])) (fun t stp => XT.iconstV X404.here hx rfl (0 : Int32) (hb hby at_239) rfl stp) ?_
          refine own_up (S' := T404.setTop (mkF m 241 La403 [(.long l0), (.int (0 : Int32)), (.ref ad404), (.ref ad404)])) (fun t stp => XT.lloadN X404.here hx rfl (hb hby at_240) (by rw [hLa403]; rfl) stp) ?_
          refine own_stj X404 hx hZ e404 Al404 0 (hb hby at_241) (rfl) (Nat.le_of_ble_eq_true rfl) rfl rfl (g' := (mkF m 242 La403 [(.ref ad404)])) rfl ?_
          intro T407 h407 X407 e407 W407 B407
          have Zn408 := Nat.le_trans Zn405 (Nat.le_of_eq W407.size.symm)
          have Al396_409 := own_Al_oth W407 Al396_406 ne404_ad376_ad404
          have Al399_409 := own_Al_oth W407 Al399_406 ne404_ad380_ad404
          have N407 := Fr.snoc X407 N399 g_ad404
          have Al407 : own_Al Z h407 ad404 .long [(.long l0), (.long (0 : Int64)), (.long (0 : Int64)), (.long (0 : Int64))] := B407
          refine own_up (S' := T407.setTop (mkF m 243 La403 [(.ref ad404), (.ref ad404)])) (fun t stp => XS.dup X407.here hx rfl (hb hby at_242) rfl rfl stp) ?_
          refine own_up (S' := T407.setTop (mkF m 244 La403 [(.int (1 : Int32)), (.ref ad404), (.ref ad404)])) (fun t stp => XT.iconstV X407.here hx rfl (1 : Int32) (hb hby at_243) rfl stp) ?_
          refine own_up (S' := T407.setTop (mkF m 245 La403 [(.long l1), (.int (1 : Int32)), (.ref ad404), (.ref ad404)])) (fun t stp => XT.lloadN X407.here hx rfl (hb hby at_244) (by rw [hLa403]; rfl) stp) ?_
          refine own_stj X407 hx hZ e407 Al407 1 (hb hby at_245) (rfl) (Nat.le_of_ble_eq_true rfl) rfl rfl (g' := (mkF m 246 La403 [(.ref ad404)])) rfl ?_
          intro T410 h410 X410 e410 W410 B410
          have Zn411 := Nat.le_trans Zn408 (Nat.le_of_eq W410.size.symm)
          have Al396_412 := own_Al_oth W410 Al396_409 ne404_ad376_ad404
          have Al399_412 := own_Al_oth W410 Al399_409 ne404_ad380_ad404
          have N410 := Fr.snoc X410 N407 g_ad404
          have Al410 : own_Al Z h410 ad404 .long [(.long l0), (.long l1), (.long (0 : Int64)), (.long (0 : Int64))] := B410
          refine own_up (S' := T410.setTop (mkF m 247 La403 [(.ref ad404), (.ref ad404)])) (fun t stp => XS.dup X410.here hx rfl (hb hby at_246) rfl rfl stp) ?_
          refine own_up (S' := T410.setTop (mkF m 248 La403 [(.int (2 : Int32)), (.ref ad404), (.ref ad404)])) (fun t stp => XT.iconstV X410.here hx rfl (2 : Int32) (hb hby at_247) rfl stp) ?_
          refine own_up (S' := T410.setTop (mkF m 250 La403 [(.long l2), (.int (2 : Int32)), (.ref ad404), (.ref ad404)])) (fun t stp => XT.lload X410.here hx rfl (hb hby at_248) (by rw [hLa403]; rfl) stp) ?_
          refine own_stj X410 hx hZ e410 Al410 2 (hb hby at_250) (rfl) (Nat.le_of_ble_eq_true rfl) rfl rfl (g' := (mkF m 251 La403 [(.ref ad404)])) rfl ?_
          intro T413 h413 X413 e413 W413 B413
          have Zn414 := Nat.le_trans Zn411 (Nat.le_of_eq W413.size.symm)
          have Al396_415 := own_Al_oth W413 Al396_412 ne404_ad376_ad404
          have Al399_415 := own_Al_oth W413 Al399_412 ne404_ad380_ad404
          have N413 := Fr.snoc X413 N410 g_ad404
          have Al413 : own_Al Z h413 ad404 .long [(.long l0), (.long l1), (.long l2), (.long (0 : Int64))] := B413
          refine own_up (S' := T413.setTop (mkF m 252 La403 [(.ref ad404), (.ref ad404)])) (fun t stp => XS.dup X413.here hx rfl (hb hby at_251) rfl rfl stp) ?_
          refine own_up (S' := T413.setTop (mkF m 253 La403 [(.int (3 : Int32)), (.ref ad404), (.ref ad404)])) (fun t stp => XT.iconstV X413.here hx rfl (3 : Int32) (hb hby at_252) rfl stp) ?_
          refine own_up (S' := T413.setTop (mkF m 255 La403 [(.long l3), (.int (3 : Int32)), (.ref ad404), (.ref ad404)])) (fun t stp => XT.lload X413.here hx rfl (hb hby at_253) (by rw [hLa403]; rfl) stp) ?_
          refine own_stj X413 hx hZ e413 Al413 3 (hb hby at_255) (rfl) (Nat.le_of_ble_eq_true rfl) rfl rfl (g' := (mkF m 256 La403 [(.ref ad404)])) rfl ?_
          intro T416 h416 X416 e416 W416 B416
          have Zn417 := Nat.le_trans Zn414 (Nat.le_of_eq W416.size.symm)
          have Al396_418 := own_Al_oth W416 Al396_415 ne404_ad376_ad404
          have Al399_418 := own_Al_oth W416 Al399_415 ne404_ad380_ad404
          have N416 := Fr.snoc X416 N413 g_ad404
          have Al416 : own_Al Z h416 ad404 .long [(.long l0), (.long l1), (.long l2), (.long l3)] := B416
          obtain ⟨La419, hLa419⟩ : ∃ L : Array Slot, L = #[.val (.long l0), .second, .val (.long l1), .second, .val (.long l2), .second, .val (.long u0), .second, .val (.long u1), .second, .val (.int sel), .val (.int mm), .val (.int (0 : Int32)), .val (.int (1 : Int32)), .val (.int (0 : Int32)), .val (.int (1 : Int32)), .val (.long u0), .second, .val (.long u1), .second, .val (.long v2), .second, .val (.long v3), .second, .val (.int (2 : Int32)), .val (.ref ad376), .val (.ref ad380), .val (.int (2 : Int32)), .val (.long l3), .second, .val (.ref ad404), .unset, .unset, .unset, .unset, .unset, .unset, .unset, .unset, .unset] := ⟨_, rfl⟩
          refine own_up (S' := T416.setTop (mkF m 258 La419 [])) (fun t stp => XS.astore X416.here hx rfl (hb hby at_256) rfl rfl (l' := La419) (by rw [hLa403, hLa419]; rfl) stp) ?_
          refine own_new X416 hx hZ hown (hw _ (List.mem_of_getElem? (i := 2) rfl)) (hw _ (List.mem_of_getElem? (i := 3) rfl)) (hw _ (List.mem_of_getElem? (i := 4) rfl)) e416 rfl (hb hby at_258) (by decide) (by decide) ?_
          intro T420 h420 ob hb420 X420 e420 E420 A420 D420
          have ne420_ad376_ob : ad376 ≠ ob := Nat.ne_of_lt (Nat.lt_of_lt_of_eq (own_Al_lt Al396_418) hb420.symm)
          have ne420_ad380_ob : ad380 ≠ ob := Nat.ne_of_lt (Nat.lt_of_lt_of_eq (own_Al_lt Al399_418) hb420.symm)
          have ne420_ad404_ob : ad404 ≠ ob := Nat.ne_of_lt (Nat.lt_of_lt_of_eq (own_Al_lt Al416) hb420.symm)
          have g_ob : n0 ≤ ob := Nat.le_trans Zn417 (Nat.le_of_eq hb420.symm)
          have Zn421 := Nat.le_trans Zn417 E420.1
          have Al396_422 := own_Al_ext E420 Al396_418
          have Al399_422 := own_Al_ext E420 Al399_418
          have Al416_422 := own_Al_ext E420 Al416
          have Fresources_ob : Fld Z h420 ob "com/example/outcry/outcry/combinatorial/Bundle" "resources" "[I" .null := D420 (Or.inr (hw _ (List.mem_of_getElem? (i := 17) rfl))) (ty := (.array .int)) (by decide)
          have Funits_ob : Fld Z h420 ob "com/example/outcry/outcry/combinatorial/Bundle" "units" "[J" .null := D420 (Or.inr (hw _ (List.mem_of_getElem? (i := 19) rfl))) (ty := (.array .long)) (by decide)
          show own_Ends p e below s (own_Q0 Z l0 l1 l2 u0 u1 sel h0 n0) room_1.cells room_1.slots (T420.setTop (mkF m 261 La419 [(.ref ob)]))
          refine own_up (S' := T420.setTop (mkF m 262 La419 [(.ref ob), (.ref ob)])) (fun t stp => XS.dup X420.here hx rfl (hb hby at_261) rfl rfl stp) ?_
          refine own_up (S' := T420.setTop (mkF m 264 La419 [(.ref ad376), (.ref ob), (.ref ob)])) (fun t stp => XS.aload X420.here hx rfl (hb hby at_262) (by rw [hLa419]; rfl) rfl stp) ?_
          refine own_up (S' := T420.setTop (mkF m 266 La419 [(.ref ad380), (.ref ad376), (.ref ob), (.ref ob)])) (fun t stp => XS.aload X420.here hx rfl (hb hby at_264) (by rw [hLa419]; rfl) rfl stp) ?_
          refine own_callI X420 hx hZ rfl hown (hw _ (List.mem_of_getElem? (i := 5) rfl)) (hw _ (List.mem_of_getElem? (i := 6) rfl)) (hw _ (List.mem_of_getElem? (i := 4) rfl)) (hw _ (List.mem_of_getElem? (i := 7) rfl)) (by decide) e420 (rm2 l Z a0 hw [] ob ad376 ad380 h420 n0 Zn421 Fresources_ob Funits_ob A420 g_ob) 1 ob [(.ref ad376), (.ref ad380)] [(.ref ob)] (hb hby at_266) (lenOf own_pd1 rfl) (by decide) (by decide) (by decide) (by decide) rfl (by rw [hml, hLa419]; rfl) rfl (by show 2 * 0 + _ ≤ _; exact Nat.le_of_eq rfl) rfl ?_
          intro T423 L423 r423 X423 q423
          obtain ⟨rfl, M423, K423, G423a_423, G423b_423⟩ := q423
          have N423 := Fr.app N416 M423
          have Zn424 := Nat.le_trans Zn421 K423.1
          have Al396_425 := own_Al_keep K423 Al396_422 (ninS ne420_ad376_ob nin0)
          have Al399_425 := own_Al_keep K423 Al399_422 (ninS ne420_ad380_ob nin0)
          have Al416_425 := own_Al_keep K423 Al416_422 (ninS ne420_ad404_ob nin0)
          have A420_425 := A420.keep K423
          show own_Ends p e below s (own_Q0 Z l0 l1 l2 u0 u1 sel h0 n0) room_1.cells room_1.slots (T423.setTop (mkF m 269 La419 [(.ref ob)]))
          obtain ⟨La426, hLa426⟩ : ∃ L : Array Slot, L = #[.val (.long l0), .second, .val (.long l1), .second, .val (.long l2), .second, .val (.long u0), .second, .val (.long u1), .second, .val (.int sel), .val (.int mm), .val (.int (0 : Int32)), .val (.int (1 : Int32)), .val (.int (0 : Int32)), .val (.int (1 : Int32)), .val (.long u0), .second, .val (.long u1), .second, .val (.long v2), .second, .val (.long v3), .second, .val (.int (2 : Int32)), .val (.ref ad376), .val (.ref ad380), .val (.int (2 : Int32)), .val (.long l3), .second, .val (.ref ad404), .val (.ref ob), .unset, .unset, .unset, .unset, .unset, .unset, .unset, .unset] := ⟨_, rfl⟩
          refine own_up (S' := T423.setTop (mkF m 271 La426 [])) (fun t stp => XS.astore X423.here hx rfl (hb hby at_269) rfl rfl (l' := La426) (by rw [hLa419, hLa426]; rfl) stp) ?_
          refine own_up (S' := T423.setTop (mkF m 273 La426 [(.ref ob)])) (fun t stp => XS.aload X423.here hx rfl (hb hby at_271) (by rw [hLa426]; rfl) rfl stp) ?_
          refine own_up (S' := T423.setTop (mkF m 275 La426 [(.ref ad404), (.ref ob)])) (fun t stp => XS.aload X423.here hx rfl (hb hby at_273) (by rw [hLa426]; rfl) rfl stp) ?_
          refine own_callV X423 hx hZ hown (hw _ (List.mem_of_getElem? (i := 20) rfl)) (hw _ (List.mem_of_getElem? (i := 21) rfl)) (hw _ (List.mem_of_getElem? (i := 23) rfl)) (hw _ (List.mem_of_getElem? (i := 22) rfl)) (hw _ (List.mem_of_getElem? (i := 4) rfl)) (hw _ (List.mem_of_getElem? (i := 24) rfl)) (by decide) rfl (rm12 l Z a0 hw [] ob ad404 ad376 ad380 [(.long l0), (.long l1), (.long l2), (.long l3)] (1 : Int32) u1 (1) l1 (3 : Int32) v3 (3) l3 T423.heap n0 Zn424 G423a_423 G423b_423 Al396_425 Al399_425 Al416_425 g_ad404 ne404_ad376_ad404 ne404_ad380_ad404 (Ne.symm ne420_ad404_ob) (rfl) (rfl) (rfl) (rfl)) 0 A420_425 [(.ref ad404)] [] (hb hby at_275) (lenOf own_pd2 rfl) (by decide) (by decide) (by decide) (by decide) rfl (by rw [hml, hLa426]; rfl) rfl (by show 2 * 0 + _ ≤ _; exact Nat.le_of_eq rfl) rfl ?_
          intro T427 L427 r427 X427 q427
          obtain ⟨rfl, M427, K427, G427a_427⟩ := q427
          have N427 := Fr.app N423 M427
          have Zn428 := Nat.le_trans Zn424 K427.1
          have Al396_429 := own_Al_keep K427 Al396_425 (ninS ne404_ad376_ad404 nin0)
          have Al399_429 := own_Al_keep K427 Al399_425 (ninS ne404_ad380_ad404 nin0)
          have A420_429 := A420_425.keep K427
          have G423a_429 := G423a_423.keep K427 (ninS (Ne.symm ne420_ad404_ob) nin0)
          have G423b_429 := G423b_423.keep K427 (ninS (Ne.symm ne420_ad404_ob) nin0)
          show own_Ends p e below s (own_Q0 Z l0 l1 l2 u0 u1 sel h0 n0) room_1.cells room_1.slots (T427.setTop (mkF m 278 La426 []))
          have Tk427 : own_Al Z T427.heap ad404 .long [(.long l0), (.long (l1 - u1)), (.long l2), (.long (l3 - v3))] := G427a_427
          refine own_up (S' := T427.setTop (mkF m 280 La426 [(.int (0 : Int32))])) (fun t stp => XS.iload X427.here hx rfl (hb hby at_278) (by rw [hLa426]; rfl) stp) ?_
          have hc280_430 : (0 : Int32) = 0 := hc88_371
          refine own_up (S' := T427.setTop (mkF m 290 La426 [])) (fun t stp => XS.ifYes X427.here hx rfl (pc0 := 280) (pc' := 290) rfl (hb hby at_280) rfl (XT.i0_eq_t hc280_430) (by decide) (by decide) stp) ?_
          refine own_up (S' := T427.setTop (mkF m 291 La426 [(.long l0)])) (fun t stp => XT.lloadN X427.here hx rfl (hb hby at_290) (by rw [hLa426]; rfl) stp) ?_
          obtain ⟨La431, hLa431⟩ : ∃ L : Array Slot, L = #[.val (.long l0), .second, .val (.long l1), .second, .val (.long l2), .second, .val (.long u0), .second, .val (.long u1), .second, .val (.int sel), .val (.int mm), .val (.int (0 : Int32)), .val (.int (1 : Int32)), .val (.int (0 : Int32)), .val (.int (1 : Int32)), .val (.long u0), .second, .val (.long u1), .second, .val (.long v2), .second, .val (.long v3), .second, .val (.int (2 : Int32)), .val (.ref ad376), .val (.ref ad380), .val (.int (2 : Int32)), .val (.long l3), .second, .val (.ref ad404), .val (.ref ob), .val (.long l0), .second, .unset, .unset, .unset, .unset, .unset, .unset] := ⟨_, rfl⟩
          refine own_up (S' := T427.setTop (mkF m 293 La431 [])) (fun t stp => XT.lstore X427.here hx rfl (hb hby at_291) rfl (l' := La431) (by rw [hLa426, hLa431]; rfl) stp) ?_
          refine own_up (S' := T427.setTop (mkF m 295 La431 [(.int (1 : Int32))])) (fun t stp => XS.iload X427.here hx rfl (hb hby at_293) (by rw [hLa431]; rfl) stp) ?_
          have hc295_432 : ¬ ((1 : Int32) = 0) := hc98_372
          refine own_up (S' := T427.setTop (mkF m 298 La431 [])) (fun t stp => XS.ifNo X427.here hx rfl (hb hby at_295) rfl (XT.i0_eq_f hc295_432) stp) ?_
          refine own_up (S' := T427.setTop (mkF m 299 La431 [(.long l1)])) (fun t stp => XT.lloadN X427.here hx rfl (hb hby at_298) (by rw [hLa431]; rfl) stp) ?_
          refine own_up (S' := T427.setTop (mkF m 301 La431 [(.long u1), (.long l1)])) (fun t stp => XT.lload X427.here hx rfl (hb hby at_299) (by rw [hLa431]; rfl) stp) ?_
          refine own_up (S' := T427.setTop (mkF m 302 La431 [(.long (l1 - u1))])) (fun t stp => XT.lsub X427.here hx rfl (hb hby at_301) rfl stp) ?_
          refine own_up (S' := T427.setTop (mkF m 306 La431 [(.long (l1 - u1))])) (fun t stp => XS.goto X427.here hx rfl (pc0 := 302) (pc' := 306) rfl (hb hby at_302) (by decide) (by decide) stp) ?_
          obtain ⟨e1q, h_e1q⟩ : ∃ z : Int64, z = (l1 - u1) := ⟨_, rfl⟩
          rw [← h_e1q]
          obtain ⟨La433, hLa433⟩ : ∃ L : Array Slot, L = #[.val (.long l0), .second, .val (.long l1), .second, .val (.long l2), .second, .val (.long u0), .second, .val (.long u1), .second, .val (.int sel), .val (.int mm), .val (.int (0 : Int32)), .val (.int (1 : Int32)), .val (.int (0 : Int32)), .val (.int (1 : Int32)), .val (.long u0), .second, .val (.long u1), .second, .val (.long v2), .second, .val (.long v3), .second, .val (.int (2 : Int32)), .val (.ref ad376), .val (.ref ad380), .val (.int (2 : Int32)), .val (.long l3), .second, .val (.ref ad404), .val (.ref ob), .val (.long l0), .second, .val (.long e1q), .second, .unset, .unset, .unset, .unset] := ⟨_, rfl⟩
          refine own_up (S' := T427.setTop (mkF m 308 La433 [])) (fun t stp => XT.lstore X427.here hx rfl (hb hby at_306) rfl (l' := La433) (by rw [hLa431, hLa433]; rfl) stp) ?_
          refine own_up (S' := T427.setTop (mkF m 310 La433 [(.int (0 : Int32))])) (fun t stp => XS.iload X427.here hx rfl (hb hby at_308) (by rw [hLa433]; rfl) stp) ?_
          have hc310_434 : (0 : Int32) = 0 := hc88_371
          refine own_up (S' := T427.setTop (mkF m 321 La433 [])) (fun t stp => XS.ifYes X427.here hx rfl (pc0 := 310) (pc' := 321) rfl (hb hby at_310) rfl (XT.i0_eq_t hc310_434) (by decide) (by decide) stp) ?_
          refine own_up (S' := T427.setTop (mkF m 323 La433 [(.long l2)])) (fun t stp => XT.lload X427.here hx rfl (hb hby at_321) (by rw [hLa433]; rfl) stp) ?_
          obtain ⟨La435, hLa435⟩ : ∃ L : Array Slot, L = #[.val (.long l0), .second, .val (.long l1), .second, .val (.long l2), .second, .val (.long u0), .second, .val (.long u1), .second, .val (.int sel), .val (.int mm), .val (.int (0 : Int32)), .val (.int (1 : Int32)), .val (.int (0 : Int32)), .val (.int (1 : Int32)), .val (.long u0), .second, .val (.long u1), .second, .val (.long v2), .second, .val (.long v3), .second, .val (.int (2 : Int32)), .val (.ref ad376), .val (.ref ad380), .val (.int (2 : Int32)), .val (.long l3), .second, .val (.ref ad404), .val (.ref ob), .val (.long l0), .second, .val (.long e1q), .second, .val (.long l2), .second, .unset, .unset] := ⟨_, rfl⟩
          refine own_up (S' := T427.setTop (mkF m 325 La435 [])) (fun t stp => XT.lstore X427.here hx rfl (hb hby at_323) rfl (l' := La435) (by rw [hLa433, hLa435]; rfl) stp) ?_
          refine own_up (S' := T427.setTop (mkF m 327 La435 [(.int (1 : Int32))])) (fun t stp => XS.iload X427.here hx rfl (hb hby at_325) (by rw [hLa435]; rfl) stp) ?_
          have hc327_436 : ¬ ((1 : Int32) = 0) := hc98_372
          refine own_up (S' := T427.setTop (mkF m 330 La435 [])) (fun t stp => XS.ifNo X427.here hx rfl (hb hby at_327) rfl (XT.i0_eq_f hc327_436) stp) ?_
          refine own_up (S' := T427.setTop (mkF m 332 La435 [(.long l3)])) (fun t stp => XT.lload X427.here hx rfl (hb hby at_330) (by rw [hLa435]; rfl) stp) ?_
          refine own_up (S' := T427.setTop (mkF m 334 La435 [(.long v3), (.long l3)])) (fun t stp => XT.lload X427.here hx rfl (hb hby at_332) (by rw [hLa435]; rfl) stp) ?_
          refine own_up (S' := T427.setTop (mkF m 335 La435 [(.long (l3 - v3))])) (fun t stp => XT.lsub X427.here hx rfl (hb hby at_334) rfl stp) ?_
          refine own_up (S' := T427.setTop (mkF m 340 La435 [(.long (l3 - v3))])) (fun t stp => XS.goto X427.here hx rfl (pc0 := 335) (pc' := 340) rfl (hb hby at_335) (by decide) (by decide) stp) ?_
          obtain ⟨e3q, h_e3q⟩ : ∃ z : Int64, z = (l3 - v3) := ⟨_, rfl⟩
          rw [← h_e3q]
          obtain ⟨La437, hLa437⟩ : ∃ L : Array Slot, L = #[.val (.long l0), .second, .val (.long l1), .second, .val (.long l2), .second, .val (.long u0), .second, .val (.long u1), .second, .val (.int sel), .val (.int mm), .val (.int (0 : Int32)), .val (.int (1 : Int32)), .val (.int (0 : Int32)), .val (.int (1 : Int32)), .val (.long u0), .second, .val (.long u1), .second, .val (.long v2), .second, .val (.long v3), .second, .val (.int (2 : Int32)), .val (.ref ad376), .val (.ref ad380), .val (.int (2 : Int32)), .val (.long l3), .second, .val (.ref ad404), .val (.ref ob), .val (.long l0), .second, .val (.long e1q), .second, .val (.long l2), .second, .val (.long e3q), .second] := ⟨_, rfl⟩
          refine own_up (S' := T427.setTop (mkF m 342 La437 [])) (fun t stp => XT.lstore X427.here hx rfl (hb hby at_340) rfl (l' := La437) (by rw [hLa435, hLa437]; rfl) stp) ?_
          refine own_up (S' := T427.setTop (mkF m 344 La437 [(.ref ad404)])) (fun t stp => XS.aload X427.here hx rfl (hb hby at_342) (by rw [hLa437]; rfl) rfl stp) ?_
          refine own_len X427 hx hZ rfl Tk427 (4 : Int32) (hb hby at_344) (rfl) rfl rfl (g' := (mkF m 345 La437 [(.int (4 : Int32))])) rfl ?_
          refine own_up (S' := T427.setTop (mkF m 346 La437 [(.int (4 : Int32)), (.int (4 : Int32))])) (fun t stp => XT.iconstV X427.here hx rfl (4 : Int32) (hb hby at_345) rfl stp) ?_
          have hc346_438 : (4 : Int32) = (4 : Int32) := rfl
          refine own_up (S' := T427.setTop (mkF m 349 La437 [])) (fun t stp => XS.icmpNo X427.here hx rfl (hb hby at_346) rfl (XT.ii_ne_f hc346_438) stp) ?_
          refine own_up (S' := T427.setTop (mkF m 351 La437 [(.ref ad404)])) (fun t stp => XS.aload X427.here hx rfl (hb hby at_349) (by rw [hLa437]; rfl) rfl stp) ?_
          refine own_up (S' := T427.setTop (mkF m 352 La437 [(.int (0 : Int32)), (.ref ad404)])) (fun t stp => XT.iconstV X427.here hx rfl (0 : Int32) (hb hby at_351) rfl stp) ?_
          refine own_ldj X427 hx hZ rfl Tk427 (v := (.long l0)) 0 (hb hby at_352) (rfl) (rfl) rfl rfl (g' := (mkF m 353 La437 [(.long l0)])) rfl ?_
          refine own_up (S' := T427.setTop (mkF m 355 La437 [(.long l0), (.long l0)])) (fun t stp => XT.lload X427.here hx rfl (hb hby at_353) (by rw [hLa437]; rfl) stp) ?_
          refine own_up (S' := T427.setTop (mkF m 356 La437 [(.int (XT.cmpL l0 l0))])) (fun t stp => XT.lcmp X427.here hx rfl (hb hby at_355) rfl stp) ?_
          have hc356_439 : l0 = l0 := rfl
          have ihc356_439 : l0.toInt = l0.toInt := own_leq hc356_439
          refine own_up (S' := T427.setTop (mkF m 359 La437 [])) (fun t stp => XS.ifNo X427.here hx rfl (hb hby at_356) rfl (XT.ll_ne_f hc356_439) stp) ?_
          refine own_up (S' := T427.setTop (mkF m 361 La437 [(.ref ad404)])) (fun t stp => XS.aload X427.here hx rfl (hb hby at_359) (by rw [hLa437]; rfl) rfl stp) ?_
          refine own_up (S' := T427.setTop (mkF m 362 La437 [(.int (1 : Int32)), (.ref ad404)])) (fun t stp => XT.iconstV X427.here hx rfl (1 : Int32) (hb hby at_361) rfl stp) ?_
          refine own_ldj X427 hx hZ rfl Tk427 (v := (.long (l1 - u1))) 1 (hb hby at_362) (rfl) (rfl) rfl rfl (g' := (mkF m 363 La437 [(.long (l1 - u1))])) rfl ?_
          refine own_up (S' := T427.setTop (mkF m 365 La437 [(.long e1q), (.long (l1 - u1))])) (fun t stp => XT.lload X427.here hx rfl (hb hby at_363) (by rw [hLa437]; rfl) stp) ?_
          refine own_up (S' := T427.setTop (mkF m 366 La437 [(.int (XT.cmpL (l1 - u1) e1q))])) (fun t stp => XT.lcmp X427.here hx rfl (hb hby at_365) rfl stp) ?_
          have hc366_440 : (l1 - u1) = e1q := h_e1q.symm
          have ihc366_440 : (l1 - u1).toInt = e1q.toInt := own_leq hc366_440
          refine own_up (S' := T427.setTop (mkF m 369 La437 [])) (fun t stp => XS.ifNo X427.here hx rfl (hb hby at_366) rfl (XT.ll_ne_f hc366_440) stp) ?_
          refine own_up (S' := T427.setTop (mkF m 371 La437 [(.ref ad404)])) (fun t stp => XS.aload X427.here hx rfl (hb hby at_369) (by rw [hLa437]; rfl) rfl stp) ?_
          refine own_up (S' := T427.setTop (mkF m 372 La437 [(.int (2 : Int32)), (.ref ad404)])) (fun t stp => XT.iconstV X427.here hx rfl (2 : Int32) (hb hby at_371) rfl stp) ?_
          refine own_ldj X427 hx hZ rfl Tk427 (v := (.long l2)) 2 (hb hby at_372) (rfl) (rfl) rfl rfl (g' := (mkF m 373 La437 [(.long l2)])) rfl ?_
          refine own_up (S' := T427.setTop (mkF m 375 La437 [(.long l2), (.long l2)])) (fun t stp => XT.lload X427.here hx rfl (hb hby at_373) (by rw [hLa437]; rfl) stp) ?_
          refine own_up (S' := T427.setTop (mkF m 376 La437 [(.int (XT.cmpL l2 l2))])) (fun t stp => XT.lcmp X427.here hx rfl (hb hby at_375) rfl stp) ?_
          have hc376_441 : l2 = l2 := rfl
          have ihc376_441 : l2.toInt = l2.toInt := own_leq hc376_441
          refine own_up (S' := T427.setTop (mkF m 379 La437 [])) (fun t stp => XS.ifNo X427.here hx rfl (hb hby at_376) rfl (XT.ll_ne_f hc376_441) stp) ?_
          refine own_up (S' := T427.setTop (mkF m 381 La437 [(.ref ad404)])) (fun t stp => XS.aload X427.here hx rfl (hb hby at_379) (by rw [hLa437]; rfl) rfl stp) ?_
          refine own_up (S' := T427.setTop (mkF m 382 La437 [(.int (3 : Int32)), (.ref ad404)])) (fun t stp => XT.iconstV X427.here hx rfl (3 : Int32) (hb hby at_381) rfl stp) ?_
          refine own_ldj X427 hx hZ rfl Tk427 (v := (.long (l3 - v3))) 3 (hb hby at_382) (rfl) (rfl) rfl rfl (g' := (mkF m 383 La437 [(.long (l3 - v3))])) rfl ?_
          refine own_up (S' := T427.setTop (mkF m 385 La437 [(.long e3q), (.long (l3 - v3))])) (fun t stp => XT.lload X427.here hx rfl (hb hby at_383) (by rw [hLa437]; rfl) stp) ?_
          refine own_up (S' := T427.setTop (mkF m 386 La437 [(.int (XT.cmpL (l3 - v3) e3q))])) (fun t stp => XT.lcmp X427.here hx rfl (hb hby at_385) rfl stp) ?_
          have hc386_442 : (l3 - v3) = e3q := h_e3q.symm
          have ihc386_442 : (l3 - v3).toInt = e3q.toInt := own_leq hc386_442
          refine own_up (S' := T427.setTop (mkF m 389 La437 [])) (fun t stp => XS.ifNo X427.here hx rfl (hb hby at_386) rfl (XT.ll_ne_f hc386_442) stp) ?_
          refine own_up (S' := T427.setTop (mkF m 390 La437 [(.int (1 : Int32))])) (fun t stp => XT.iconstV X427.here hx rfl (1 : Int32) (hb hby at_389) rfl stp) ?_
          refine own_up (S' := T427.setTop (mkF m 394 La437 [(.int (1 : Int32))])) (fun t stp => XS.goto X427.here hx rfl (pc0 := 390) (pc' := 394) rfl (hb hby at_390) (by decide) (by decide) stp) ?_
          refine own_retN X427 hx hlk (t := .boolean) hret (by simp) (z' := (1 : Int32)) rfl (hb hby at_394) (by decide) (by decide) ?_
          show own_Q0 Z l0 l1 l2 u0 u1 sel h0 n0 _ T427.heap _
          exact ⟨rfl, N427⟩
      · have ihc39_293 : (mm &&& (4 : Int32)).toInt ≠ 0 := own_ine hc39_293
        refine own_up (S' := T0.setTop (mkF m 42 La292 [])) (fun t stp => XS.ifNo X0.here hx rfl (hb hby at_39) rfl (XT.i0_eq_f hc39_293) stp) ?_
        refine own_up (S' := T0.setTop (mkF m 43 La292 [(.int (1 : Int32))])) (fun t stp => XT.iconstV X0.here hx rfl (1 : Int32) (hb hby at_42) rfl stp) ?_
        refine own_up (S' := T0.setTop (mkF m 47 La292 [(.int (1 : Int32))])) (fun t stp => XS.goto X0.here hx rfl (pc0 := 43) (pc' := 47) rfl (hb hby at_43) (by decide) (by decide) stp) ?_
        obtain ⟨La443, hLa443⟩ : ∃ L : Array Slot, L = #[.val (.long l0), .second, .val (.long l1), .second, .val (.long l2), .second, .val (.long u0), .second, .val (.long u1), .second, .val (.int sel), .val (.int mm), .val (.int (0 : Int32)), .val (.int (1 : Int32)), .val (.int (1 : Int32)), .unset, .unset, .unset, .unset, .unset, .unset, .unset, .unset, .unset, .unset, .unset, .unset, .unset, .unset, .unset, .unset, .unset, .unset, .unset, .unset, .unset, .unset, .unset, .unset, .unset] := ⟨_, rfl⟩
        refine own_up (S' := T0.setTop (mkF m 49 La443 [])) (fun t stp => XS.istore X0.here hx rfl (hb hby at_47) rfl (l' := La443) (by rw [hLa292, hLa443]; rfl) stp) ?_
        refine own_up (S' := T0.setTop (mkF m 51 La443 [(.int mm)])) (fun t stp => XS.iload X0.here hx rfl (hb hby at_49) (by rw [hLa443]; rfl) stp) ?_
        refine own_up (S' := T0.setTop (mkF m 53 La443 [(.int (8 : Int32)), (.int mm)])) (fun t stp => XT.bipushV X0.here hx rfl (8 : Int32) (hb hby at_51) rfl stp) ?_
        refine own_up (S' := T0.setTop (mkF m 54 La443 [(.int (mm &&& (8 : Int32)))])) (fun t stp => XS.iand X0.here hx rfl (hb hby at_53) rfl stp) ?_
        by_cases hc54_444 : (mm &&& (8 : Int32)) = 0
        · have ihc54_444 : (mm &&& (8 : Int32)).toInt = 0 := own_ieq hc54_444
          refine own_up (S' := T0.setTop (mkF m 61 La443 [])) (fun t stp => XS.ifYes X0.here hx rfl (pc0 := 54) (pc' := 61) rfl (hb hby at_54) rfl (XT.i0_eq_t hc54_444) (by decide) (by decide) stp) ?_
          refine own_up (S' := T0.setTop (mkF m 62 La443 [(.int (0 : Int32))])) (fun t stp => XT.iconstV X0.here hx rfl (0 : Int32) (hb hby at_61) rfl stp) ?_
          obtain ⟨La445, hLa445⟩ : ∃ L : Array Slot, L = #[.val (.long l0), .second, .val (.long l1), .second, .val (.long l2), .second, .val (.long u0), .second, .val (.long u1), .second, .val (.int sel), .val (.int mm), .val (.int (0 : Int32)), .val (.int (1 : Int32)), .val (.int (1 : Int32)), .val (.int (0 : Int32)), .unset, .unset, .unset, .unset, .unset, .unset, .unset, .unset, .unset, .unset, .unset, .unset, .unset, .unset, .unset, .unset, .unset, .unset, .unset, .unset, .unset, .unset, .unset, .unset] := ⟨_, rfl⟩
          refine own_up (S' := T0.setTop (mkF m 64 La445 [])) (fun t stp => XS.istore X0.here hx rfl (hb hby at_62) rfl (l' := La445) (by rw [hLa443, hLa445]; rfl) stp) ?_
          refine own_up (S' := T0.setTop (mkF m 66 La445 [(.long u0)])) (fun t stp => XT.lload X0.here hx rfl (hb hby at_64) (by rw [hLa445]; rfl) stp) ?_
          obtain ⟨La446, hLa446⟩ : ∃ L : Array Slot, L = #[.val (.long l0), .second, .val (.long l1), .second, .val (.long l2), .second, .val (.long u0), .second, .val (.long u1), .second, .val (.int sel), .val (.int mm), .val (.int (0 : Int32)), .val (.int (1 : Int32)), .val (.int (1 : Int32)), .val (.int (0 : Int32)), .val (.long u0), .second, .unset, .unset, .unset, .unset, .unset, .unset, .unset, .unset, .unset, .unset, .unset, .unset, .unset, .unset, .unset, .unset, .unset, .unset, .unset, .unset, .unset, .unset] := ⟨_, rfl⟩
          refine own_up (S' := T0.setTop (mkF m 68 La446 [])) (fun t stp => XT.lstore X0.here hx rfl (hb hby at_66) rfl (l' := La446) (by rw [hLa445, hLa446]; rfl) stp) ?_
          refine own_up (S' := T0.setTop (mkF m 70 La446 [(.long u1)])) (fun t stp => XT.lload X0.here hx rfl (hb hby at_68) (by rw [hLa446]; rfl) stp) ?_
          obtain ⟨La447, hLa447⟩ : ∃ L : Array Slot, L = #[.val (.long l0), .second, .val (.long l1), .second, .val (.long l2), .second, .val (.long u0), .second, .val (.long u1), .second, .val (.int sel), .val (.int mm), .val (.int (0 : Int32)), .val (.int (1 : Int32)), .val (.int (1 : Int32)), .val (.int (0 : Int32)), .val (.long u0), .second, .val (.long u1), .second, .unset, .unset, .unset, .unset, .unset, .unset, .unset, .unset, .unset, .unset, .unset, .unset, .unset, .unset, .unset, .unset, .unset, .unset, .unset, .unset] := ⟨_, rfl⟩
          refine own_up (S' := T0.setTop (mkF m 72 La447 [])) (fun t stp => XT.lstore X0.here hx rfl (hb hby at_70) rfl (l' := La447) (by rw [hLa446, hLa447]; rfl) stp) ?_
          refine own_up (S' := T0.setTop (mkF m 74 La447 [(.long u0)])) (fun t stp => XT.lload X0.here hx rfl (hb hby at_72) (by rw [hLa447]; rfl) stp) ?_
          refine own_up (S' := T0.setTop (mkF m 76 La447 [(.long u1), (.long u0)])) (fun t stp => XT.lload X0.here hx rfl (hb hby at_74) (by rw [hLa447]; rfl) stp) ?_
          refine own_up (S' := T0.setTop (mkF m 77 La447 [(.long (u0 - u1))])) (fun t stp => XT.lsub X0.here hx rfl (hb hby at_76) rfl stp) ?_
          obtain ⟨v2, h_v2⟩ : ∃ z : Int64, z = (u0 - u1) := ⟨_, rfl⟩
          rw [← h_v2]
          obtain ⟨La448, hLa448⟩ : ∃ L : Array Slot, L = #[.val (.long l0), .second, .val (.long l1), .second, .val (.long l2), .second, .val (.long u0), .second, .val (.long u1), .second, .val (.int sel), .val (.int mm), .val (.int (0 : Int32)), .val (.int (1 : Int32)), .val (.int (1 : Int32)), .val (.int (0 : Int32)), .val (.long u0), .second, .val (.long u1), .second, .val (.long v2), .second, .unset, .unset, .unset, .unset, .unset, .unset, .unset, .unset, .unset, .unset, .unset, .unset, .unset, .unset, .unset, .unset, .unset, .unset] := ⟨_, rfl⟩
          refine own_up (S' := T0.setTop (mkF m 79 La448 [])) (fun t stp => XT.lstore X0.here hx rfl (hb hby at_77) rfl (l' := La448) (by rw [hLa447, hLa448]; rfl) stp) ?_
          refine own_up (S' := T0.setTop (mkF m 81 La448 [(.long u1)])) (fun t stp => XT.lload X0.here hx rfl (hb hby at_79) (by rw [hLa448]; rfl) stp) ?_
          refine own_up (S' := T0.setTop (mkF m 83 La448 [(.long l2), (.long u1)])) (fun t stp => XT.lload X0.here hx rfl (hb hby at_81) (by rw [hLa448]; rfl) stp) ?_
          refine own_up (S' := T0.setTop (mkF m 84 La448 [(.long (u1 ^^^ l2))])) (fun t stp => XT.lxor X0.here hx rfl (hb hby at_83) rfl stp) ?_
          obtain ⟨v3, h_v3⟩ : ∃ z : Int64, z = (u1 ^^^ l2) := ⟨_, rfl⟩
          rw [← h_v3]
          obtain ⟨La449, hLa449⟩ : ∃ L : Array Slot, L = #[.val (.long l0), .second, .val (.long l1), .second, .val (.long l2), .second, .val (.long u0), .second, .val (.long u1), .second, .val (.int sel), .val (.int mm), .val (.int (0 : Int32)), .val (.int (1 : Int32)), .val (.int (1 : Int32)), .val (.int (0 : Int32)), .val (.long u0), .second, .val (.long u1), .second, .val (.long v2), .second, .val (.long v3), .second, .unset, .unset, .unset, .unset, .unset, .unset, .unset, .unset, .unset, .unset, .unset, .unset, .unset, .unset, .unset, .unset] := ⟨_, rfl⟩
          refine own_up (S' := T0.setTop (mkF m 86 La449 [])) (fun t stp => XT.lstore X0.here hx rfl (hb hby at_84) rfl (l' := La449) (by rw [hLa448, hLa449]; rfl) stp) ?_
          refine own_up (S' := T0.setTop (mkF m 88 La449 [(.int (0 : Int32))])) (fun t stp => XS.iload X0.here hx rfl (hb hby at_86) (by rw [hLa449]; rfl) stp) ?_
          have hc88_450 : (0 : Int32) = 0 := by decide
          refine own_up (S' := T0.setTop (mkF m 95 La449 [])) (fun t stp => XS.ifYes X0.here hx rfl (pc0 := 88) (pc' := 95) rfl (hb hby at_88) rfl (XT.i0_eq_t hc88_450) (by decide) (by decide) stp) ?_
          refine own_up (S' := T0.setTop (mkF m 96 La449 [(.int (0 : Int32))])) (fun t stp => XT.iconstV X0.here hx rfl (0 : Int32) (hb hby at_95) rfl stp) ?_
          refine own_up (S' := T0.setTop (mkF m 98 La449 [(.int (1 : Int32)), (.int (0 : Int32))])) (fun t stp => XS.iload X0.here hx rfl (hb hby at_96) (by rw [hLa449]; rfl) stp) ?_
          have hc98_451 : ¬ ((1 : Int32) = 0) := by decide
          refine own_up (S' := T0.setTop (mkF m 101 La449 [(.int (0 : Int32))])) (fun t stp => XS.ifNo X0.here hx rfl (hb hby at_98) rfl (XT.i0_eq_f hc98_451) stp) ?_
          refine own_up (S' := T0.setTop (mkF m 102 La449 [(.int (1 : Int32)), (.int (0 : Int32))])) (fun t stp => XT.iconstV X0.here hx rfl (1 : Int32) (hb hby at_101) rfl stp) ?_
          refine own_up (S' := T0.setTop (mkF m 106 La449 [(.int (1 : Int32)), (.int (0 : Int32))])) (fun t stp => XS.goto X0.here hx rfl (pc0 := 102) (pc' := 106) rfl (hb hby at_102) (by decide) (by decide) stp) ?_
          refine own_up (S' := T0.setTop (mkF m 107 La449 [(.int ((0 : Int32) + (1 : Int32)))])) (fun t stp => XS.iadd X0.here hx rfl (hb hby at_106) rfl stp) ?_
          refine own_up (S' := T0.setTop (mkF m 109 La449 [(.int (1 : Int32)), (.int ((0 : Int32) + (1 : Int32)))])) (fun t stp => XS.iload X0.here hx rfl (hb hby at_107) (by rw [hLa449]; rfl) stp) ?_
          have hc109_452 : ¬ ((1 : Int32) = 0) := hc98_451
          refine own_up (S' := T0.setTop (mkF m 112 La449 [(.int ((0 : Int32) + (1 : Int32)))])) (fun t stp => XS.ifNo X0.here hx rfl (hb hby at_109) rfl (XT.i0_eq_f hc109_452) stp) ?_
          refine own_up (S' := T0.setTop (mkF m 113 La449 [(.int (1 : Int32)), (.int ((0 : Int32) + (1 : Int32)))])) (fun t stp => XT.iconstV X0.here hx rfl (1 : Int32) (hb hby at_112) rfl stp) ?_
          refine own_up (S' := T0.setTop (mkF m 117 La449 [(.int (1 : Int32)), (.int ((0 : Int32) + (1 : Int32)))])) (fun t stp => XS.goto X0.here hx rfl (pc0 := 113) (pc' := 117) rfl (hb hby at_113) (by decide) (by decide) stp) ?_
          refine own_up (S' := T0.setTop (mkF m 118 La449 [(.int (((0 : Int32) + (1 : Int32)) + (1 : Int32)))])) (fun t stp => XS.iadd X0.here hx rfl (hb hby at_117) rfl stp) ?_
          refine own_up (S' := T0.setTop (mkF m 120 La449 [(.int (0 : Int32)), (.int (((0 : Int32) + (1 : Int32)) + (1 : Int32)))])) (fun t stp => XS.iload X0.here hx rfl (hb hby at_118) (by rw [hLa449]; rfl) stp) ?_
          have hc120_453 : (0 : Int32) = 0 := hc88_450
          refine own_up (S' := T0.setTop (mkF m 127 La449 [(.int (((0 : Int32) + (1 : Int32)) + (1 : Int32)))])) (fun t stp => XS.ifYes X0.here hx rfl (pc0 := 120) (pc' := 127) rfl (hb hby at_120) rfl (XT.i0_eq_t hc120_453) (by decide) (by decide) stp) ?_
          refine own_up (S' := T0.setTop (mkF m 128 La449 [(.int (0 : Int32)), (.int (((0 : Int32) + (1 : Int32)) + (1 : Int32)))])) (fun t stp => XT.iconstV X0.here hx rfl (0 : Int32) (hb hby at_127) rfl stp) ?_
          refine own_up (S' := T0.setTop (mkF m 129 La449 [(.int ((((0 : Int32) + (1 : Int32)) + (1 : Int32)) + (0 : Int32)))])) (fun t stp => XS.iadd X0.here hx rfl (hb hby at_128) rfl stp) ?_
          show own_Ends p e below s (own_Q0 Z l0 l1 l2 u0 u1 sel h0 n0) room_1.cells room_1.slots (T0.setTop (mkF m 129 La449 [(.int (2 : Int32))]))
          obtain ⟨La454, hLa454⟩ : ∃ L : Array Slot, L = #[.val (.long l0), .second, .val (.long l1), .second, .val (.long l2), .second, .val (.long u0), .second, .val (.long u1), .second, .val (.int sel), .val (.int mm), .val (.int (0 : Int32)), .val (.int (1 : Int32)), .val (.int (1 : Int32)), .val (.int (0 : Int32)), .val (.long u0), .second, .val (.long u1), .second, .val (.long v2), .second, .val (.long v3), .second, .val (.int (2 : Int32)), .unset, .unset, .unset, .unset, .unset, .unset, .unset, .unset, .unset, .unset, .unset, .unset, .unset, .unset, .unset] := ⟨_, rfl⟩
          refine own_up (S' := T0.setTop (mkF m 131 La454 [])) (fun t stp => XS.istore X0.here hx rfl (hb hby at_129) rfl (l' := La454) (by rw [hLa449, hLa454]; rfl) stp) ?_
          refine own_up (S' := T0.setTop (mkF m 133 La454 [(.int (2 : Int32))])) (fun t stp => XS.iload X0.here hx rfl (hb hby at_131) (by rw [hLa454]; rfl) stp) ?_
          refine own_newa X0 hx hZ (ty := .int) rfl (hw _ (List.mem_of_getElem? (i := 0) rfl)) e0 2 (hb hby at_133) (rfl) 2 (by decide) (by decide) (by decide) (by decide) rfl rfl ?_
          intro T455 h455 ad455 hb455 X455 e455 E455 A455
          have g_ad455 : n0 ≤ ad455 := Nat.le_trans Z0 (Nat.le_of_eq hb455.symm)
          have Zn456 := Nat.le_trans Z0 E455.1
          have Al455 : own_Al Z h455 ad455 .int [(.int (0 : Int32)), (.int (0 : Int32))] := A455
          show own_Ends p e below s (own_Q0 Z l0 l1 l2 u0 u1 sel h0 n0) room_1.cells room_1.slots (T455.setTop (mkF m 135 La454 [(.ref ad455)]))
          obtain ⟨La458, hLa458⟩ : ∃ L : Array Slot, L = #[.val (.long l0), .second, .val (.long l1), .second, .val (.long l2), .second, .val (.long u0), .second, .val (.long u1), .second, .val (.int sel), .val (.int mm), .val (.int (0 : Int32)), .val (.int (1 : Int32)), .val (.int (1 : Int32)), .val (.int (0 : Int32)), .val (.long u0), .second, .val (.long u1), .second, .val (.long v2), .second, .val (.long v3), .second, .val (.int (2 : Int32)), .val (.ref ad455), .unset, .unset, .unset, .unset, .unset, .unset, .unset, .unset, .unset, .unset, .unset, .unset, .unset, .unset] := ⟨_, rfl⟩
          refine own_up (S' := T455.setTop (mkF m 137 La458 [])) (fun t stp => XS.astore X455.here hx rfl (hb hby at_135) rfl rfl (l' := La458) (by rw [hLa454, hLa458]; rfl) stp) ?_
          refine own_up (S' := T455.setTop (mkF m 139 La458 [(.int (2 : Int32))])) (fun t stp => XS.iload X455.here hx rfl (hb hby at_137) (by rw [hLa458]; rfl) stp) ?_
          refine own_newa X455 hx hZ (ty := .long) rfl (hw _ (List.mem_of_getElem? (i := 1) rfl)) e455 2 (hb hby at_139) (rfl) 2 (by decide) (by decide) (by decide) (by decide) rfl rfl ?_
          intro T459 h459 ad459 hb459 X459 e459 E459 A459
          have ne459_ad455_ad459 : ad455 ≠ ad459 := Nat.ne_of_lt (Nat.lt_of_lt_of_eq (own_Al_lt Al455) hb459.symm)
          have g_ad459 : n0 ≤ ad459 := Nat.le_trans Zn456 (Nat.le_of_eq hb459.symm)
          have Zn460 := Nat.le_trans Zn456 E459.1
          have Al455_461 := own_Al_ext E459 Al455
          have Al459 : own_Al Z h459 ad459 .long [(.long (0 : Int64)), (.long (0 : Int64))] := A459
          show own_Ends p e below s (own_Q0 Z l0 l1 l2 u0 u1 sel h0 n0) room_1.cells room_1.slots (T459.setTop (mkF m 141 La458 [(.ref ad459)]))
          obtain ⟨La462, hLa462⟩ : ∃ L : Array Slot, L = #[.val (.long l0), .second, .val (.long l1), .second, .val (.long l2), .second, .val (.long u0), .second, .val (.long u1), .second, .val (.int sel), .val (.int mm), .val (.int (0 : Int32)), .val (.int (1 : Int32)), .val (.int (1 : Int32)), .val (.int (0 : Int32)), .val (.long u0), .second, .val (.long u1), .second, .val (.long v2), .second, .val (.long v3), .second, .val (.int (2 : Int32)), .val (.ref ad455), .val (.ref ad459), .unset, .unset, .unset, .unset, .unset, .unset, .unset, .unset, .unset, .unset, .unset, .unset, .unset] := ⟨_, rfl⟩
          refine own_up (S' := T459.setTop (mkF m 143 La462 [])) (fun t stp => XS.astore X459.here hx rfl (hb hby at_141) rfl rfl (l' := La462) (by rw [hLa458, hLa462]; rfl) stp) ?_
          refine own_up (S' := T459.setTop (mkF m 144 La462 [(.int (0 : Int32))])) (fun t stp => XT.iconstV X459.here hx rfl (0 : Int32) (hb hby at_143) rfl stp) ?_
          obtain ⟨La463, hLa463⟩ : ∃ L : Array Slot, L = #[.val (.long l0), .second, .val (.long l1), .second, .val (.long l2), .second, .val (.long u0), .second, .val (.long u1), .second, .val (.int sel), .val (.int mm), .val (.int (0 : Int32)), .val (.int (1 : Int32)), .val (.int (1 : Int32)), .val (.int (0 : Int32)), .val (.long u0), .second, .val (.long u1), .second, .val (.long v2), .second, .val (.long v3), .second, .val (.int (2 : Int32)), .val (.ref ad455), .val (.ref ad459), .val (.int (0 : Int32)), .unset, .unset, .unset, .unset, .unset, .unset, .unset, .unset, .unset, .unset, .unset, .unset] := ⟨_, rfl⟩
          refine own_up (S' := T459.setTop (mkF m 146 La463 [])) (fun t stp => XS.istore X459.here hx rfl (hb hby at_144) rfl (l' := La463) (by rw [hLa462, hLa463]; rfl) stp) ?_
          refine own_up (S' := T459.setTop (mkF m 148 La463 [(.int (0 : Int32))])) (fun t stp => XS.iload X459.here hx rfl (hb hby at_146) (by rw [hLa463]; rfl) stp) ?_
          have hc148_464 : (0 : Int32) = 0 := hc88_450
          refine own_up (S' := T459.setTop (mkF m 167 La463 [])) (fun t stp => XS.ifYes X459.here hx rfl (pc0 := 148) (pc' := 167) rfl (hb hby at_148) rfl (XT.i0_eq_t hc148_464) (by decide) (by decide) stp) ?_
          refine own_up (S' := T459.setTop (mkF m 169 La463 [(.int (1 : Int32))])) (fun t stp => XS.iload X459.here hx rfl (hb hby at_167) (by rw [hLa463]; rfl) stp) ?_
          have hc169_465 : ¬ ((1 : Int32) = 0) := hc98_451
          refine own_up (S' := T459.setTop (mkF m 172 La463 [])) (fun t stp => XS.ifNo X459.here hx rfl (hb hby at_169) rfl (XT.i0_eq_f hc169_465) stp) ?_
          refine own_up (S' := T459.setTop (mkF m 174 La463 [(.ref ad455)])) (fun t stp => XS.aload X459.here hx rfl (hb hby at_172) (by rw [hLa463]; rfl) rfl stp) ?_
          refine own_up (S' := T459.setTop (mkF m 176 La463 [(.int (0 : Int32)), (.ref ad455)])) (fun t stp => XS.iload X459.here hx rfl (hb hby at_174) (by rw [hLa463]; rfl) stp) ?_
          refine own_up (S' := T459.setTop (mkF m 177 La463 [(.int (1 : Int32)), (.int (0 : Int32)), (.ref ad455)])) (fun t stp => XT.iconstV X459.here hx rfl (1 : Int32) (hb hby at_176) rfl stp) ?_
          refine own_sti X459 hx hZ e459 Al455_461 0 (hb hby at_177) (rfl) (Nat.le_of_ble_eq_true rfl) rfl rfl (g' := (mkF m 178 La463 [])) rfl ?_
          intro T466 h466 X466 e466 W466 B466
          have Zn467 := Nat.le_trans Zn460 (Nat.le_of_eq W466.size.symm)
          have Al459_468 := own_Al_oth W466 Al459 (Ne.symm ne459_ad455_ad459)
          have N466 := Fr.snoc X466 N0 g_ad455
          have Al466 : own_Al Z h466 ad455 .int [(.int (1 : Int32)), (.int (0 : Int32))] := B466
          refine own_up (S' := T466.setTop (mkF m 180 La463 [(.ref ad459)])) (fun t stp => XS.aload X466.here hx rfl (hb hby at_178) (by rw [hLa463]; rfl) rfl stp) ?_
          refine own_up (S' := T466.setTop (mkF m 182 La463 [(.int (0 : Int32)), (.ref ad459)])) (fun t stp => XS.iload X466.here hx rfl (hb hby at_180) (by rw [hLa463]; rfl) stp) ?_
          refine own_up (S' := T466.setTop (mkF m 184 La463 [(.long u1), (.int (0 : Int32)), (.ref ad459)])) (fun t stp => XT.lload X466.here hx rfl (hb hby at_182) (by rw [hLa463]; rfl) stp) ?_
          refine own_stj X466 hx hZ e466 Al459_468 0 (hb hby at_184) (rfl) (Nat.le_of_ble_eq_true rfl) rfl rfl (g' := (mkF m 185 La463 [])) rfl ?_
          intro T469 h469 X469 e469 W469 B469
          have Zn470 := Nat.le_trans Zn467 (Nat.le_of_eq W469.size.symm)
          have Al466_471 := own_Al_oth W469 Al466 ne459_ad455_ad459
          have N469 := Fr.snoc X469 N466 g_ad459
          have Al469 : own_Al Z h469 ad459 .long [(.long u1), (.long (0 : Int64))] := B469
          obtain ⟨La472, hLa472⟩ : ∃ L : Array Slot, L = #[.val (.long l0), .second, .val (.long l1), .second, .val (.long l2), .second, .val (.long u0), .second, .val (.long u1), .second, .val (.int sel), .val (.int mm), .val (.int (0 : Int32)), .val (.int (1 : Int32)), .val (.int (1 : Int32)), .val (.int (0 : Int32)), .val (.long u0), .second, .val (.long u1), .second, .val (.long v2), .second, .val (.long v3), .second, .val (.int (2 : Int32)), .val (.ref ad455), .val (.ref ad459), .val (.int (1 : Int32)), .unset, .unset, .unset, .unset, .unset, .unset, .unset, .unset, .unset, .unset, .unset, .unset] := ⟨_, rfl⟩
          refine own_up (S' := T469.setTop (mkF m 188 La472 [])) (fun t stp => XT.iincV X469.here hx rfl (1 : Int32) (hb hby at_185) rfl (by rw [hLa463]; rfl) (l' := La472) (by rw [hLa463, hLa472]; rfl) stp) ?_
          refine own_up (S' := T469.setTop (mkF m 190 La472 [(.int (1 : Int32))])) (fun t stp => XS.iload X469.here hx rfl (hb hby at_188) (by rw [hLa472]; rfl) stp) ?_
          have hc190_473 : ¬ ((1 : Int32) = 0) := hc98_451
          refine own_up (S' := T469.setTop (mkF m 193 La472 [])) (fun t stp => XS.ifNo X469.here hx rfl (hb hby at_190) rfl (XT.i0_eq_f hc190_473) stp) ?_
          refine own_up (S' := T469.setTop (mkF m 195 La472 [(.ref ad455)])) (fun t stp => XS.aload X469.here hx rfl (hb hby at_193) (by rw [hLa472]; rfl) rfl stp) ?_
          refine own_up (S' := T469.setTop (mkF m 197 La472 [(.int (1 : Int32)), (.ref ad455)])) (fun t stp => XS.iload X469.here hx rfl (hb hby at_195) (by rw [hLa472]; rfl) stp) ?_
          refine own_up (S' := T469.setTop (mkF m 198 La472 [(.int (2 : Int32)), (.int (1 : Int32)), (.ref ad455)])) (fun t stp => XT.iconstV X469.here hx rfl (2 : Int32) (hb hby at_197) rfl stp) ?_
          refine own_sti X469 hx hZ e469 Al466_471 1 (hb hby at_198) (rfl) (Nat.le_of_ble_eq_true rfl) rfl rfl (g' := (mkF m 199 La472 [])) rfl ?_
          intro T474 h474 X474 e474 W474 B474
          have Zn475 := Nat.le_trans Zn470 (Nat.le_of_eq W474.size.symm)
          have Al469_476 := own_Al_oth W474 Al469 (Ne.symm ne459_ad455_ad459)
          have N474 := Fr.snoc X474 N469 g_ad455
          have Al474 : own_Al Z h474 ad455 .int [(.int (1 : Int32)), (.int (2 : Int32))] := B474
          refine own_up (S' := T474.setTop (mkF m 201 La472 [(.ref ad459)])) (fun t stp => XS.aload X474.here hx rfl (hb hby at_199) (by rw [hLa472]; rfl) rfl stp) ?_
          refine own_up (S' := T474.setTop (mkF m 203 La472 [(.int (1 : Int32)), (.ref ad459)])) (fun t stp => XS.iload X474.here hx rfl (hb hby at_201) (by rw [hLa472]; rfl) stp) ?_
          refine own_up (S' := T474.setTop (mkF m 205 La472 [(.long v2), (.int (1 : Int32)), (.ref ad459)])) (fun t stp => XT.lload X474.here hx rfl (hb hby at_203) (by rw [hLa472]; rfl) stp) ?_
          refine own_stj X474 hx hZ e474 Al469_476 1 (hb hby at_205) (rfl) (Nat.le_of_ble_eq_true rfl) rfl rfl (g' := (mkF m 206 La472 [])) rfl ?_
          intro T477 h477 X477 e477 W477 B477
          have Zn478 := Nat.le_trans Zn475 (Nat.le_of_eq W477.size.symm)
          have Al474_479 := own_Al_oth W477 Al474 ne459_ad455_ad459
          have N477 := Fr.snoc X477 N474 g_ad459
          have Al477 : own_Al Z h477 ad459 .long [(.long u1), (.long v2)] := B477
          obtain ⟨La480, hLa480⟩ : ∃ L : Array Slot, L = #[.val (.long l0), .second, .val (.long l1), .second, .val (.long l2), .second, .val (.long u0), .second, .val (.long u1), .second, .val (.int sel), .val (.int mm), .val (.int (0 : Int32)), .val (.int (1 : Int32)), .val (.int (1 : Int32)), .val (.int (0 : Int32)), .val (.long u0), .second, .val (.long u1), .second, .val (.long v2), .second, .val (.long v3), .second, .val (.int (2 : Int32)), .val (.ref ad455), .val (.ref ad459), .val (.int (2 : Int32)), .unset, .unset, .unset, .unset, .unset, .unset, .unset, .unset, .unset, .unset, .unset, .unset] := ⟨_, rfl⟩
          refine own_up (S' := T477.setTop (mkF m 209 La480 [])) (fun t stp => XT.iincV X477.here hx rfl (1 : Int32) (hb hby at_206) rfl (by rw [hLa472]; rfl) (l' := La480) (by rw [hLa472, hLa480]; rfl) stp) ?_
          refine own_up (S' := T477.setTop (mkF m 211 La480 [(.int (0 : Int32))])) (fun t stp => XS.iload X477.here hx rfl (hb hby at_209) (by rw [hLa480]; rfl) stp) ?_
          have hc211_481 : (0 : Int32) = 0 := hc88_450
          refine own_up (S' := T477.setTop (mkF m 230 La480 [])) (fun t stp => XS.ifYes X477.here hx rfl (pc0 := 211) (pc' := 230) rfl (hb hby at_211) rfl (XT.i0_eq_t hc211_481) (by decide) (by decide) stp) ?_
          refine own_up (S' := T477.setTop (mkF m 231 La480 [(.long l0)])) (fun t stp => XT.lloadN X477.here hx rfl (hb hby at_230) (by rw [hLa480]; rfl) stp) ?_
          refine own_up (S' := T477.setTop (mkF m 232 La480 [(.long l1), (.long l0)])) (fun t stp => XT.lloadN X477.here hx rfl (hb hby at_231) (by rw [hLa480]; rfl) stp) ?_
          refine own_up (S' := T477.setTop (mkF m 233 La480 [(.long (l0 ^^^ l1))])) (fun t stp => XT.lxor X477.here hx rfl (hb hby at_232) rfl stp) ?_
          obtain ⟨l3, h_l3⟩ : ∃ z : Int64, z = (l0 ^^^ l1) := ⟨_, rfl⟩
          rw [← h_l3]
          obtain ⟨La482, hLa482⟩ : ∃ L : Array Slot, L = #[.val (.long l0), .second, .val (.long l1), .second, .val (.long l2), .second, .val (.long u0), .second, .val (.long u1), .second, .val (.int sel), .val (.int mm), .val (.int (0 : Int32)), .val (.int (1 : Int32)), .val (.int (1 : Int32)), .val (.int (0 : Int32)), .val (.long u0), .second, .val (.long u1), .second, .val (.long v2), .second, .val (.long v3), .second, .val (.int (2 : Int32)), .val (.ref ad455), .val (.ref ad459), .val (.int (2 : Int32)), .val (.long l3), .second, .unset, .unset, .unset, .unset, .unset, .unset, .unset, .unset, .unset, .unset] := ⟨_, rfl⟩
          refine own_up (S' := T477.setTop (mkF m 235 La482 [])) (fun t stp => XT.lstore X477.here hx rfl (hb hby at_233) rfl (l' := La482) (by rw [hLa480, hLa482]; rfl) stp) ?_
          refine own_up (S' := T477.setTop (mkF m 236 La482 [(.int (4 : Int32))])) (fun t stp => XT.iconstV X477.here hx rfl (4 : Int32) (hb hby at_235) rfl stp) ?_
          refine own_newa X477 hx hZ (ty := .long) rfl (hw _ (List.mem_of_getElem? (i := 1) rfl)) e477 4 (hb hby at_236) (rfl) 4 (by decide) (by decide) (by decide) (by decide) rfl rfl ?_
          intro T483 h483 ad483 hb483 X483 e483 E483 A483
          have ne483_ad455_ad483 : ad455 ≠ ad483 := Nat.ne_of_lt (Nat.lt_of_lt_of_eq (own_Al_lt Al474_479) hb483.symm)
          have ne483_ad459_ad483 : ad459 ≠ ad483 := Nat.ne_of_lt (Nat.lt_of_lt_of_eq (own_Al_lt Al477) hb483.symm)
          have g_ad483 : n0 ≤ ad483 := Nat.le_trans Zn478 (Nat.le_of_eq hb483.symm)
          have Zn484 := Nat.le_trans Zn478 E483.1
          have Al474_485 := own_Al_ext E483 Al474_479
          have Al477_485 := own_Al_ext E483 Al477
          have Al483 : own_Al Z h483 ad483 .long [(.long (0 : Int64)), (.long (0 : Int64)), (.long (0 : Int64)), (.long (0 : Int64))] := A483
          show own_Ends p e below s (own_Q0 Z l0 l1 l2 u0 u1 sel h0 n0) room_1.cells room_1.slots (T483.setTop (mkF m 238 La482 [(.ref ad483)]))
          refine own_up (S' := T483.setTop (mkF m 239 La482 [(.ref ad483), (.ref ad483)])) (fun t stp => XS.dup X483.here hx rfl (hb hby at_238) rfl rfl stp) ?_
          refine own_up (S' := T483.setTop (mkF m 240 La482 [(.int (0 : Int32)), (.ref ad483), (.ref ad483)])) (fun t stp => XT.iconstV X483.here hx rfl (0 : Int32) (hb hby at_239) rfl stp) ?_
          refine own_up (S' := T483.setTop (mkF m 241 La482 [(.long l0), (.int (0 : Int32)), (.ref ad483), (.ref ad483)])) (fun t stp => XT.lloadN X483.here hx rfl (hb hby at_240) (by rw [hLa482]; rfl) stp) ?_
          refine own_stj X483 hx hZ e483 Al483 0 (hb hby at_241) (rfl) (Nat.le_of_ble_eq_true rfl) rfl rfl (g' := (mkF m 242 La482 [(.ref ad483)])) rfl ?_
          intro T486 h486 X486 e486 W486 B486
          have Zn487 := Nat.le_trans Zn484 (Nat.le_of_eq W486.size.symm)
          have Al474_488 := own_Al_oth W486 Al474_485 ne483_ad455_ad483
          have Al477_488 := own_Al_oth W486 Al477_485 ne483_ad459_ad483
          have N486 := Fr.snoc X486 N477 g_ad483
          have Al486 : own_Al Z h486 ad483 .long [(.long l0), (.long (0 : Int64)), (.long (0 : Int64)), (.long (0 : Int64))] := B486
          refine own_up (S' := T486.setTop (mkF m 243 La482 [(.ref ad483), (.ref ad483)])) (fun t stp => XS.dup X486.here hx rfl (hb hby at_242) rfl rfl stp) ?_
          refine own_up (S' := T486.setTop (mkF m 244 La482 [(.int (1 : Int32)), (.ref ad483), (.ref ad483)])) (fun t stp => XT.iconstV X486.here hx rfl (1 : Int32) (hb hby at_243) rfl stp) ?_
          refine own_up (S' := T486.setTop (mkF m 245 La482 [(.long l1), (.int (1 : Int32)), (.ref ad483), (.ref ad483)])) (fun t stp => XT.lloadN X486.here hx rfl (hb hby at_244) (by rw [hLa482]; rfl) stp) ?_
          refine own_stj X486 hx hZ e486 Al486 1 (hb hby at_245) (rfl) (Nat.le_of_ble_eq_true rfl) rfl rfl (g' := (mkF m 246 La482 [(.ref ad483)])) rfl ?_
          intro T489 h489 X489 e489 W489 B489
          have Zn490 := Nat.le_trans Zn487 (Nat.le_of_eq W489.size.symm)
          have Al474_491 := own_Al_oth W489 Al474_488 ne483_ad455_ad483
          have Al477_491 := own_Al_oth W489 Al477_488 ne483_ad459_ad483
          have N489 := Fr.snoc X489 N486 g_ad483
          have Al489 : own_Al Z h489 ad483 .long [(.long l0), (.long l1), (.long (0 : Int64)), (.long (0 : Int64))] := B489
          refine own_up (S' := T489.setTop (mkF m 247 La482 [(.ref ad483), (.ref ad483)])) (fun t stp => XS.dup X489.here hx rfl (hb hby at_246) rfl rfl stp) ?_
          refine own_up (S' := T489.setTop (mkF m 248 La482 [(.int (2 : Int32)), (.ref ad483), (.ref ad483)])) (fun t stp => XT.iconstV X489.here hx rfl (2 : Int32) (hb hby at_247) rfl stp) ?_
          refine own_up (S' := T489.setTop (mkF m 250 La482 [(.long l2), (.int (2 : Int32)), (.ref ad483), (.ref ad483)])) (fun t stp => XT.lload X489.here hx rfl (hb hby at_248) (by rw [hLa482]; rfl) stp) ?_
          refine own_stj X489 hx hZ e489 Al489 2 (hb hby at_250) (rfl) (Nat.le_of_ble_eq_true rfl) rfl rfl (g' := (mkF m 251 La482 [(.ref ad483)])) rfl ?_
          intro T492 h492 X492 e492 W492 B492
          have Zn493 := Nat.le_trans Zn490 (Nat.le_of_eq W492.size.symm)
          have Al474_494 := own_Al_oth W492 Al474_491 ne483_ad455_ad483
          have Al477_494 := own_Al_oth W492 Al477_491 ne483_ad459_ad483
          have N492 := Fr.snoc X492 N489 g_ad483
          have Al492 : own_Al Z h492 ad483 .long [(.long l0), (.long l1), (.long l2), (.long (0 : Int64))] := B492
          refine own_up (S' := T492.setTop (mkF m 252 La482 [(.ref ad483), (.ref ad483)])) (fun t stp => XS.dup X492.here hx rfl (hb hby at_251) rfl rfl stp) ?_
          refine own_up (S' := T492.setTop (mkF m 253 La482 [(.int (3 : Int32)), (.ref ad483), (.ref ad483)])) (fun t stp => XT.iconstV X492.here hx rfl (3 : Int32) (hb hby at_252) rfl stp) ?_
          refine own_up (S' := T492.setTop (mkF m 255 La482 [(.long l3), (.int (3 : Int32)), (.ref ad483), (.ref ad483)])) (fun t stp => XT.lload X492.here hx rfl (hb hby at_253) (by rw [hLa482]; rfl) stp) ?_
          refine own_stj X492 hx hZ e492 Al492 3 (hb hby at_255) (rfl) (Nat.le_of_ble_eq_true rfl) rfl rfl (g' := (mkF m 256 La482 [(.ref ad483)])) rfl ?_
          intro T495 h495 X495 e495 W495 B495
          have Zn496 := Nat.le_trans Zn493 (Nat.le_of_eq W495.size.symm)
          have Al474_497 := own_Al_oth W495 Al474_494 ne483_ad455_ad483
          have Al477_497 := own_Al_oth W495 Al477_494 ne483_ad459_ad483
          have N495 := Fr.snoc X495 N492 g_ad483
          have Al495 : own_Al Z h495 ad483 .long [(.long l0), (.long l1), (.long l2), (.long l3)] := B495
          obtain ⟨La498, hLa498⟩ : ∃ L : Array Slot, L = #[.val (.long l0), .second, .val (.long l1), .second, .val (.long l2), .second, .val (.long u0), .second, .val (.long u1), .second, .val (.int sel), .val (.int mm), .val (.int (0 : Int32)), .val (.int (1 : Int32)), .val (.int (1 : Int32)), .val (.int (0 : Int32)), .val (.long u0), .second, .val (.long u1), .second, .val (.long v2), .second, .val (.long v3), .second, .val (.int (2 : Int32)), .val (.ref ad455), .val (.ref ad459), .val (.int (2 : Int32)), .val (.long l3), .second, .val (.ref ad483), .unset, .unset, .unset, .unset, .unset, .unset, .unset, .unset, .unset] := ⟨_, rfl⟩
          refine own_up (S' := T495.setTop (mkF m 258 La498 [])) (fun t stp => XS.astore X495.here hx rfl (hb hby at_256) rfl rfl (l' := La498) (by rw [hLa482, hLa498]; rfl) stp) ?_
          refine own_new X495 hx hZ hown (hw _ (List.mem_of_getElem? (i := 2) rfl)) (hw _ (List.mem_of_getElem? (i := 3) rfl)) (hw _ (List.mem_of_getElem? (i := 4) rfl)) e495 rfl (hb hby at_258) (by decide) (by decide) ?_
          intro T499 h499 ob hb499 X499 e499 E499 A499 D499
          have ne499_ad455_ob : ad455 ≠ ob := Nat.ne_of_lt (Nat.lt_of_lt_of_eq (own_Al_lt Al474_497) hb499.symm)
          have ne499_ad459_ob : ad459 ≠ ob := Nat.ne_of_lt (Nat.lt_of_lt_of_eq (own_Al_lt Al477_497) hb499.symm)
          have ne499_ad483_ob : ad483 ≠ ob := Nat.ne_of_lt (Nat.lt_of_lt_of_eq (own_Al_lt Al495) hb499.symm)
          have g_ob : n0 ≤ ob := Nat.le_trans Zn496 (Nat.le_of_eq hb499.symm)
          have Zn500 := Nat.le_trans Zn496 E499.1
          have Al474_501 := own_Al_ext E499 Al474_497
          have Al477_501 := own_Al_ext E499 Al477_497
          have Al495_501 := own_Al_ext E499 Al495
          have Fresources_ob : Fld Z h499 ob "com/example/outcry/outcry/combinatorial/Bundle" "resources" "[I" .null := D499 (Or.inr (hw _ (List.mem_of_getElem? (i := 17) rfl))) (ty := (.array .int)) (by decide)
          have Funits_ob : Fld Z h499 ob "com/example/outcry/outcry/combinatorial/Bundle" "units" "[J" .null := D499 (Or.inr (hw _ (List.mem_of_getElem? (i := 19) rfl))) (ty := (.array .long)) (by decide)
          show own_Ends p e below s (own_Q0 Z l0 l1 l2 u0 u1 sel h0 n0) room_1.cells room_1.slots (T499.setTop (mkF m 261 La498 [(.ref ob)]))
          refine own_up (S' := T499.setTop (mkF m 262 La498 [(.ref ob), (.ref ob)])) (fun t stp => XS.dup X499.here hx rfl (hb hby at_261) rfl rfl stp) ?_
          refine own_up (S' := T499.setTop (mkF m 264 La498 [(.ref ad455), (.ref ob), (.ref ob)])) (fun t stp => XS.aload X499.here hx rfl (hb hby at_262) (by rw [hLa498]; rfl) rfl stp) ?_
          refine own_up (S' := T499.setTop (mkF m 266 La498 [(.ref ad459), (.ref ad455), (.ref ob), (.ref ob)])) (fun t stp => XS.aload X499.here hx rfl (hb hby at_264) (by rw [hLa498]; rfl) rfl stp) ?_
          refine own_callI X499 hx hZ rfl hown (hw _ (List.mem_of_getElem? (i := 5) rfl)) (hw _ (List.mem_of_getElem? (i := 6) rfl)) (hw _ (List.mem_of_getElem? (i := 4) rfl)) (hw _ (List.mem_of_getElem? (i := 7) rfl)) (by decide) e499 (rm2 l Z a0 hw [] ob ad455 ad459 h499 n0 Zn500 Fresources_ob Funits_ob A499 g_ob) 1 ob [(.ref ad455), (.ref ad459)] [(.ref ob)] (hb hby at_266) (lenOf own_pd1 rfl) (by decide) (by decide) (by decide) (by decide) rfl (by rw [hml, hLa498]; rfl) rfl (by show 2 * 0 + _ ≤ _; exact Nat.le_of_eq rfl) rfl ?_
          intro T502 L502 r502 X502 q502
          obtain ⟨rfl, M502, K502, G502a_502, G502b_502⟩ := q502
          have N502 := Fr.app N495 M502
          have Zn503 := Nat.le_trans Zn500 K502.1
          have Al474_504 := own_Al_keep K502 Al474_501 (ninS ne499_ad455_ob nin0)
          have Al477_504 := own_Al_keep K502 Al477_501 (ninS ne499_ad459_ob nin0)
          have Al495_504 := own_Al_keep K502 Al495_501 (ninS ne499_ad483_ob nin0)
          have A499_504 := A499.keep K502
          show own_Ends p e below s (own_Q0 Z l0 l1 l2 u0 u1 sel h0 n0) room_1.cells room_1.slots (T502.setTop (mkF m 269 La498 [(.ref ob)]))
          obtain ⟨La505, hLa505⟩ : ∃ L : Array Slot, L = #[.val (.long l0), .second, .val (.long l1), .second, .val (.long l2), .second, .val (.long u0), .second, .val (.long u1), .second, .val (.int sel), .val (.int mm), .val (.int (0 : Int32)), .val (.int (1 : Int32)), .val (.int (1 : Int32)), .val (.int (0 : Int32)), .val (.long u0), .second, .val (.long u1), .second, .val (.long v2), .second, .val (.long v3), .second, .val (.int (2 : Int32)), .val (.ref ad455), .val (.ref ad459), .val (.int (2 : Int32)), .val (.long l3), .second, .val (.ref ad483), .val (.ref ob), .unset, .unset, .unset, .unset, .unset, .unset, .unset, .unset] := ⟨_, rfl⟩
          refine own_up (S' := T502.setTop (mkF m 271 La505 [])) (fun t stp => XS.astore X502.here hx rfl (hb hby at_269) rfl rfl (l' := La505) (by rw [hLa498, hLa505]; rfl) stp) ?_
          refine own_up (S' := T502.setTop (mkF m 273 La505 [(.ref ob)])) (fun t stp => XS.aload X502.here hx rfl (hb hby at_271) (by rw [hLa505]; rfl) rfl stp) ?_
          refine own_up (S' := T502.setTop (mkF m 275 La505 [(.ref ad483), (.ref ob)])) (fun t stp => XS.aload X502.here hx rfl (hb hby at_273) (by rw [hLa505]; rfl) rfl stp) ?_
          refine own_callV X502 hx hZ hown (hw _ (List.mem_of_getElem? (i := 20) rfl)) (hw _ (List.mem_of_getElem? (i := 21) rfl)) (hw _ (List.mem_of_getElem? (i := 23) rfl)) (hw _ (List.mem_of_getElem? (i := 22) rfl)) (hw _ (List.mem_of_getElem? (i := 4) rfl)) (hw _ (List.mem_of_getElem? (i := 24) rfl)) (by decide) rfl (rm12 l Z a0 hw [] ob ad483 ad455 ad459 [(.long l0), (.long l1), (.long l2), (.long l3)] (1 : Int32) u1 (1) l1 (2 : Int32) v2 (2) l2 T502.heap n0 Zn503 G502a_502 G502b_502 Al474_504 Al477_504 Al495_504 g_ad483 ne483_ad455_ad483 ne483_ad459_ad483 (Ne.symm ne499_ad483_ob) (rfl) (rfl) (rfl) (rfl)) 0 A499_504 [(.ref ad483)] [] (hb hby at_275) (lenOf own_pd2 rfl) (by decide) (by decide) (by decide) (by decide) rfl (by rw [hml, hLa505]; rfl) rfl (by show 2 * 0 + _ ≤ _; exact Nat.le_of_eq rfl) rfl ?_
          intro T506 L506 r506 X506 q506
          obtain ⟨rfl, M506, K506, G506a_506⟩ := q506
          have N506 := Fr.app N502 M506
          have Zn507 := Nat.le_trans Zn503 K506.1
          have Al474_508 := own_Al_keep K506 Al474_504 (ninS ne483_ad455_ad483 nin0)
          have Al477_508 := own_Al_keep K506 Al477_504 (ninS ne483_ad459_ad483 nin0)
          have A499_508 := A499_504.keep K506
          have G502a_508 := G502a_502.keep K506 (ninS (Ne.symm ne499_ad483_ob) nin0)
          have G502b_508 := G502b_502.keep K506 (ninS (Ne.symm ne499_ad483_ob) nin0)
          show own_Ends p e below s (own_Q0 Z l0 l1 l2 u0 u1 sel h0 n0) room_1.cells room_1.slots (T506.setTop (mkF m 278 La505 []))
          have Tk506 : own_Al Z T506.heap ad483 .long [(.long l0), (.long (l1 - u1)), (.long (l2 - v2)), (.long l3)] := G506a_506
          refine own_up (S' := T506.setTop (mkF m 280 La505 [(.int (0 : Int32))])) (fun t stp => XS.iload X506.here hx rfl (hb hby at_278) (by rw [hLa505]; rfl) stp) ?_
          have hc280_509 : (0 : Int32) = 0 := hc88_450
          refine own_up (S' := T506.setTop (mkF m 290 La505 [])) (fun t stp => XS.ifYes X506.here hx rfl (pc0 := 280) (pc' := 290) rfl (hb hby at_280) rfl (XT.i0_eq_t hc280_509) (by decide) (by decide) stp) ?_
          refine own_up (S' := T506.setTop (mkF m 291 La505 [(.long l0)])) (fun t stp => XT.lloadN X506.here hx rfl (hb hby at_290) (by rw [hLa505]; rfl) stp) ?_
          obtain ⟨La510, hLa510⟩ : ∃ L : Array Slot, L = #[.val (.long l0), .second, .val (.long l1), .second, .val (.long l2), .second, .val (.long u0), .second, .val (.long u1), .second, .val (.int sel), .val (.int mm), .val (.int (0 : Int32)), .val (.int (1 : Int32)), .val (.int (1 : Int32)), .val (.int (0 : Int32)), .val (.long u0), .second, .val (.long u1), .second, .val (.long v2), .second, .val (.long v3), .second, .val (.int (2 : Int32)), .val (.ref ad455), .val (.ref ad459), .val (.int (2 : Int32)), .val (.long l3), .second, .val (.ref ad483), .val (.ref ob), .val (.long l0), .second, .unset, .unset, .unset, .unset, .unset, .unset] := ⟨_, rfl⟩
          refine own_up (S' := T506.setTop (mkF m 293 La510 [])) (fun t stp => XT.lstore X506.here hx rfl (hb hby at_291) rfl (l' := La510) (by rw [hLa505, hLa510]; rfl) stp) ?_
          refine own_up (S' := T506.setTop (mkF m 295 La510 [(.int (1 : Int32))])) (fun t stp => XS.iload X506.here hx rfl (hb hby at_293) (by rw [hLa510]; rfl) stp) ?_
          have hc295_511 : ¬ ((1 : Int32) = 0) := hc98_451
          refine own_up (S' := T506.setTop (mkF m 298 La510 [])) (fun t stp => XS.ifNo X506.here hx rfl (hb hby at_295) rfl (XT.i0_eq_f hc295_511) stp) ?_
          refine own_up (S' := T506.setTop (mkF m 299 La510 [(.long l1)])) (fun t stp => XT.lloadN X506.here hx rfl (hb hby at_298) (by rw [hLa510]; rfl) stp) ?_
          refine own_up (S' := T506.setTop (mkF m 301 La510 [(.long u1), (.long l1)])) (fun t stp => XT.lload X506.here hx rfl (hb hby at_299) (by rw [hLa510]; rfl) stp) ?_
          refine own_up (S' := T506.setTop (mkF m 302 La510 [(.long (l1 - u1))])) (fun t stp => XT.lsub X506.here hx rfl (hb hby at_301) rfl stp) ?_
          refine own_up (S' := T506.setTop (mkF m 306 La510 [(.long (l1 - u1))])) (fun t stp => XS.goto X506.here hx rfl (pc0 := 302) (pc' := 306) rfl (hb hby at_302) (by decide) (by decide) stp) ?_
          obtain ⟨e1q, h_e1q⟩ : ∃ z : Int64, z = (l1 - u1) := ⟨_, rfl⟩
          rw [← h_e1q]
          obtain ⟨La512, hLa512⟩ : ∃ L : Array Slot, L = #[.val (.long l0), .second, .val (.long l1), .second, .val (.long l2), .second, .val (.long u0), .second, .val (.long u1), .second, .val (.int sel), .val (.int mm), .val (.int (0 : Int32)), .val (.int (1 : Int32)), .val (.int (1 : Int32)), .val (.int (0 : Int32)), .val (.long u0), .second, .val (.long u1), .second, .val (.long v2), .second, .val (.long v3), .second, .val (.int (2 : Int32)), .val (.ref ad455), .val (.ref ad459), .val (.int (2 : Int32)), .val (.long l3), .second, .val (.ref ad483), .val (.ref ob), .val (.long l0), .second, .val (.long e1q), .second, .unset, .unset, .unset, .unset] := ⟨_, rfl⟩
          refine own_up (S' := T506.setTop (mkF m 308 La512 [])) (fun t stp => XT.lstore X506.here hx rfl (hb hby at_306) rfl (l' := La512) (by rw [hLa510, hLa512]; rfl) stp) ?_
          refine own_up (S' := T506.setTop (mkF m 310 La512 [(.int (1 : Int32))])) (fun t stp => XS.iload X506.here hx rfl (hb hby at_308) (by rw [hLa512]; rfl) stp) ?_
          have hc310_513 : ¬ ((1 : Int32) = 0) := hc98_451
          refine own_up (S' := T506.setTop (mkF m 313 La512 [])) (fun t stp => XS.ifNo X506.here hx rfl (hb hby at_310) rfl (XT.i0_eq_f hc310_513) stp) ?_
          refine own_up (S' := T506.setTop (mkF m 315 La512 [(.long l2)])) (fun t stp => XT.lload X506.here hx rfl (hb hby at_313) (by rw [hLa512]; rfl) stp) ?_
          refine own_up (S' := T506.setTop (mkF m 317 La512 [(.long v2), (.long l2)])) (fun t stp => XT.lload X506.here hx rfl (hb hby at_315) (by rw [hLa512]; rfl) stp) ?_
          refine own_up (S' := T506.setTop (mkF m 318 La512 [(.long (l2 - v2))])) (fun t stp => XT.lsub X506.here hx rfl (hb hby at_317) rfl stp) ?_
          refine own_up (S' := T506.setTop (mkF m 323 La512 [(.long (l2 - v2))])) (fun t stp => XS.goto X506.here hx rfl (pc0 := 318) (pc' := 323) rfl (hb hby at_318) (by decide) (by decide) stp) ?_
          obtain ⟨e2q, h_e2q⟩ : ∃ z : Int64, z = (l2 - v2) := ⟨_, rfl⟩
          rw [← h_e2q]
          obtain ⟨La514, hLa514⟩ : ∃ L : Array Slot, L = #[.val (.long l0), .second, .val (.long l1), .second, .val (.long l2), .second, .val (.long u0), .second, .val (.long u1), .second, .val (.int sel), .val (.int mm), .val (.int (0 : Int32)), .val (.int (1 : Int32)), .val (.int (1 : Int32)), .val (.int (0 : Int32)), .val (.long u0), .second, .val (.long u1), .second, .val (.long v2), .second, .val (.long v3), .second, .val (.int (2 : Int32)), .val (.ref ad455), .val (.ref ad459), .val (.int (2 : Int32)), .val (.long l3), .second, .val (.ref ad483), .val (.ref ob), .val (.long l0), .second, .val (.long e1q), .second, .val (.long e2q), .second, .unset, .unset] := ⟨_, rfl⟩
          refine own_up (S' := T506.setTop (mkF m 325 La514 [])) (fun t stp => XT.lstore X506.here hx rfl (hb hby at_323) rfl (l' := La514) (by rw [hLa512, hLa514]; rfl) stp) ?_
          refine own_up (S' := T506.setTop (mkF m 327 La514 [(.int (0 : Int32))])) (fun t stp => XS.iload X506.here hx rfl (hb hby at_325) (by rw [hLa514]; rfl) stp) ?_
          have hc327_515 : (0 : Int32) = 0 := hc88_450
          refine own_up (S' := T506.setTop (mkF m 338 La514 [])) (fun t stp => XS.ifYes X506.here hx rfl (pc0 := 327) (pc' := 338) rfl (hb hby at_327) rfl (XT.i0_eq_t hc327_515) (by decide) (by decide) stp) ?_
          refine own_up (S' := T506.setTop (mkF m 340 La514 [(.long l3)])) (fun t stp => XT.lload X506.here hx rfl (hb hby at_338) (by rw [hLa514]; rfl) stp) ?_
          obtain ⟨La516, hLa516⟩ : ∃ L : Array Slot, L = #[.val (.long l0), .second, .val (.long l1), .second, .val (.long l2), .second, .val (.long u0), .second, .val (.long u1), .second, .val (.int sel), .val (.int mm), .val (.int (0 : Int32)), .val (.int (1 : Int32)), .val (.int (1 : Int32)), .val (.int (0 : Int32)), .val (.long u0), .second, .val (.long u1), .second, .val (.long v2), .second, .val (.long v3), .second, .val (.int (2 : Int32)), .val (.ref ad455), .val (.ref ad459), .val (.int (2 : Int32)), .val (.long l3), .second, .val (.ref ad483), .val (.ref ob), .val (.long l0), .second, .val (.long e1q), .second, .val (.long e2q), .second, .val (.long l3), .second] := ⟨_, rfl⟩
          refine own_up (S' := T506.setTop (mkF m 342 La516 [])) (fun t stp => XT.lstore X506.here hx rfl (hb hby at_340) rfl (l' := La516) (by rw [hLa514, hLa516]; rfl) stp) ?_
          refine own_up (S' := T506.setTop (mkF m 344 La516 [(.ref ad483)])) (fun t stp => XS.aload X506.here hx rfl (hb hby at_342) (by rw [hLa516]; rfl) rfl stp) ?_
          refine own_len X506 hx hZ rfl Tk506 (4 : Int32) (hb hby at_344) (rfl) rfl rfl (g' := (mkF m 345 La516 [(.int (4 : Int32))])) rfl ?_
          refine own_up (S' := T506.setTop (mkF m 346 La516 [(.int (4 : Int32)), (.int (4 : Int32))])) (fun t stp => XT.iconstV X506.here hx rfl (4 : Int32) (hb hby at_345) rfl stp) ?_
          have hc346_517 : (4 : Int32) = (4 : Int32) := rfl
          refine own_up (S' := T506.setTop (mkF m 349 La516 [])) (fun t stp => XS.icmpNo X506.here hx rfl (hb hby at_346) rfl (XT.ii_ne_f hc346_517) stp) ?_
          refine own_up (S' := T506.setTop (mkF m 351 La516 [(.ref ad483)])) (fun t stp => XS.aload X506.here hx rfl (hb hby at_349) (by rw [hLa516]; rfl) rfl stp) ?_
          refine own_up (S' := T506.setTop (mkF m 352 La516 [(.int (0 : Int32)), (.ref ad483)])) (fun t stp => XT.iconstV X506.here hx rfl (0 : Int32) (hb hby at_351) rfl stp) ?_
          refine own_ldj X506 hx hZ rfl Tk506 (v := (.long l0)) 0 (hb hby at_352) (rfl) (rfl) rfl rfl (g' := (mkF m 353 La516 [(.long l0)])) rfl ?_
          refine own_up (S' := T506.setTop (mkF m 355 La516 [(.long l0), (.long l0)])) (fun t stp => XT.lload X506.here hx rfl (hb hby at_353) (by rw [hLa516]; rfl) stp) ?_
          refine own_up (S' := T506.setTop (mkF m 356 La516 [(.int (XT.cmpL l0 l0))])) (fun t stp => XT.lcmp X506.here hx rfl (hb hby at_355) rfl stp) ?_
          have hc356_518 : l0 = l0 := rfl
          have ihc356_518 : l0.toInt = l0.toInt := own_leq hc356_518
          refine own_up (S' := T506.setTop (mkF m 359 La516 [])) (fun t stp => XS.ifNo X506.here hx rfl (hb hby at_356) rfl (XT.ll_ne_f hc356_518) stp) ?_
          refine own_up (S' := T506.setTop (mkF m 361 La516 [(.ref ad483)])) (fun t stp => XS.aload X506.here hx rfl (hb hby at_359) (by rw [hLa516]; rfl) rfl stp) ?_
          refine own_up (S' := T506.setTop (mkF m 362 La516 [(.int (1 : Int32)), (.ref ad483)])) (fun t stp => XT.iconstV X506.here hx rfl (1 : Int32) (hb hby at_361) rfl stp) ?_
          refine own_ldj X506 hx hZ rfl Tk506 (v := (.long (l1 - u1))) 1 (hb hby at_362) (rfl) (rfl) rfl rfl (g' := (mkF m 363 La516 [(.long (l1 - u1))])) rfl ?_
          refine own_up (S' := T506.setTop (mkF m 365 La516 [(.long e1q), (.long (l1 - u1))])) (fun t stp => XT.lload X506.here hx rfl (hb hby at_363) (by rw [hLa516]; rfl) stp) ?_
          refine own_up (S' := T506.setTop (mkF m 366 La516 [(.int (XT.cmpL (l1 - u1) e1q))])) (fun t stp => XT.lcmp X506.here hx rfl (hb hby at_365) rfl stp) ?_
          have hc366_519 : (l1 - u1) = e1q := h_e1q.symm
          have ihc366_519 : (l1 - u1).toInt = e1q.toInt := own_leq hc366_519
          refine own_up (S' := T506.setTop (mkF m 369 La516 [])) (fun t stp => XS.ifNo X506.here hx rfl (hb hby at_366) rfl (XT.ll_ne_f hc366_519) stp) ?_
          refine own_up (S' := T506.setTop (mkF m 371 La516 [(.ref ad483)])) (fun t stp => XS.aload X506.here hx rfl (hb hby at_369) (by rw [hLa516]; rfl) rfl stp) ?_
          refine own_up (S' := T506.setTop (mkF m 372 La516 [(.int (2 : Int32)), (.ref ad483)])) (fun t stp => XT.iconstV X506.here hx rfl (2 : Int32) (hb hby at_371) rfl stp) ?_
          refine own_ldj X506 hx hZ rfl Tk506 (v := (.long (l2 - v2))) 2 (hb hby at_372) (rfl) (rfl) rfl rfl (g' := (mkF m 373 La516 [(.long (l2 - v2))])) rfl ?_
          refine own_up (S' := T506.setTop (mkF m 375 La516 [(.long e2q), (.long (l2 - v2))])) (fun t stp => XT.lload X506.here hx rfl (hb hby at_373) (by rw [hLa516]; rfl) stp) ?_
          refine own_up (S' := T506.setTop (mkF m 376 La516 [(.int (XT.cmpL (l2 - v2) e2q))])) (fun t stp => XT.lcmp X506.here hx rfl (hb hby at_375) rfl stp) ?_
          have hc376_520 : (l2 - v2) = e2q := h_e2q.symm
          have ihc376_520 : (l2 - v2).toInt = e2q.toInt := own_leq hc376_520
          refine own_up (S' := T506.setTop (mkF m 379 La516 [])) (fun t stp => XS.ifNo X506.here hx rfl (hb hby at_376) rfl (XT.ll_ne_f hc376_520) stp) ?_
          refine own_up (S' := T506.setTop (mkF m 381 La516 [(.ref ad483)])) (fun t stp => XS.aload X506.here hx rfl (hb hby at_379) (by rw [hLa516]; rfl) rfl stp) ?_
          refine own_up (S' := T506.setTop (mkF m 382 La516 [(.int (3 : Int32)), (.ref ad483)])) (fun t stp => XT.iconstV X506.here hx rfl (3 : Int32) (hb hby at_381) rfl stp) ?_
          refine own_ldj X506 hx hZ rfl Tk506 (v := (.long l3)) 3 (hb hby at_382) (rfl) (rfl) rfl rfl (g' := (mkF m 383 La516 [(.long l3)])) rfl ?_
          refine own_up (S' := T506.setTop (mkF m 385 La516 [(.long l3), (.long l3)])) (fun t stp => XT.lload X506.here hx rfl (hb hby at_383) (by rw [hLa516]; rfl) stp) ?_
          refine own_up (S' := T506.setTop (mkF m 386 La516 [(.int (XT.cmpL l3 l3))])) (fun t stp => XT.lcmp X506.here hx rfl (hb hby at_385) rfl stp) ?_
          have hc386_521 : l3 = l3 := rfl
          have ihc386_521 : l3.toInt = l3.toInt := own_leq hc386_521
          refine own_up (S' := T506.setTop (mkF m 389 La516 [])) (fun t stp => XS.ifNo X506.here hx rfl (hb hby at_386) rfl (XT.ll_ne_f hc386_521) stp) ?_
          refine own_up (S' := T506.setTop (mkF m 390 La516 [(.int (1 : Int32))])) (fun t stp => XT.iconstV X506.here hx rfl (1 : Int32) (hb hby at_389) rfl stp) ?_
          refine own_up (S' := T506.setTop (mkF m 394 La516 [(.int (1 : Int32))])) (fun t stp => XS.goto X506.here hx rfl (pc0 := 390) (pc' := 394) rfl (hb hby at_390) (by decide) (by decide) stp) ?_
          refine own_retN X506 hx hlk (t := .boolean) hret (by simp) (z' := (1 : Int32)) rfl (hb hby at_394) (by decide) (by decide) ?_
          show own_Q0 Z l0 l1 l2 u0 u1 sel h0 n0 _ T506.heap _
          exact ⟨rfl, N506⟩
        · have ihc54_444 : (mm &&& (8 : Int32)).toInt ≠ 0 := own_ine hc54_444
          refine own_up (S' := T0.setTop (mkF m 57 La443 [])) (fun t stp => XS.ifNo X0.here hx rfl (hb hby at_54) rfl (XT.i0_eq_f hc54_444) stp) ?_
          refine own_up (S' := T0.setTop (mkF m 58 La443 [(.int (1 : Int32))])) (fun t stp => XT.iconstV X0.here hx rfl (1 : Int32) (hb hby at_57) rfl stp) ?_
          refine own_up (S' := T0.setTop (mkF m 62 La443 [(.int (1 : Int32))])) (fun t stp => XS.goto X0.here hx rfl (pc0 := 58) (pc' := 62) rfl (hb hby at_58) (by decide) (by decide) stp) ?_
          obtain ⟨La522, hLa522⟩ : ∃ L : Array Slot, L = #[.val (.long l0), .second, .val (.long l1), .second, .val (.long l2), .second, .val (.long u0), .second, .val (.long u1), .second, .val (.int sel), .val (.int mm), .val (.int (0 : Int32)), .val (.int (1 : Int32)), .val (.int (1 : Int32)), .val (.int (1 : Int32)), .unset, .unset, .unset, .unset, .unset, .unset, .unset, .unset, .unset, .unset, .unset, .unset, .unset, .unset, .unset, .unset, .unset, .unset, .unset, .unset, .unset, .unset, .unset, .unset] := ⟨_, rfl⟩
          refine own_up (S' := T0.setTop (mkF m 64 La522 [])) (fun t stp => XS.istore X0.here hx rfl (hb hby at_62) rfl (l' := La522) (by rw [hLa443, hLa522]; rfl) stp) ?_
          refine own_up (S' := T0.setTop (mkF m 66 La522 [(.long u0)])) (fun t stp => XT.lload X0.here hx rfl (hb hby at_64) (by rw [hLa522]; rfl) stp) ?_
          obtain ⟨La523, hLa523⟩ : ∃ L : Array Slot, L = #[.val (.long l0), .second, .val (.long l1), .second, .val (.long l2), .second, .val (.long u0), .second, .val (.long u1), .second, .val (.int sel), .val (.int mm), .val (.int (0 : Int32)), .val (.int (1 : Int32)), .val (.int (1 : Int32)), .val (.int (1 : Int32)), .val (.long u0), .second, .unset, .unset, .unset, .unset, .unset, .unset, .unset, .unset, .unset, .unset, .unset, .unset, .unset, .unset, .unset, .unset, .unset, .unset, .unset, .unset, .unset, .unset] := ⟨_, rfl⟩
          refine own_up (S' := T0.setTop (mkF m 68 La523 [])) (fun t stp => XT.lstore X0.here hx rfl (hb hby at_66) rfl (l' := La523) (by rw [hLa522, hLa523]; rfl) stp) ?_
          refine own_up (S' := T0.setTop (mkF m 70 La523 [(.long u1)])) (fun t stp => XT.lload X0.here hx rfl (hb hby at_68) (by rw [hLa523]; rfl) stp) ?_
          obtain ⟨La524, hLa524⟩ : ∃ L : Array Slot, L = #[.val (.long l0), .second, .val (.long l1), .second, .val (.long l2), .second, .val (.long u0), .second, .val (.long u1), .second, .val (.int sel), .val (.int mm), .val (.int (0 : Int32)), .val (.int (1 : Int32)), .val (.int (1 : Int32)), .val (.int (1 : Int32)), .val (.long u0), .second, .val (.long u1), .second, .unset, .unset, .unset, .unset, .unset, .unset, .unset, .unset, .unset, .unset, .unset, .unset, .unset, .unset, .unset, .unset, .unset, .unset, .unset, .unset] := ⟨_, rfl⟩
          refine own_up (S' := T0.setTop (mkF m 72 La524 [])) (fun t stp => XT.lstore X0.here hx rfl (hb hby at_70) rfl (l' := La524) (by rw [hLa523, hLa524]; rfl) stp) ?_
          refine own_up (S' := T0.setTop (mkF m 74 La524 [(.long u0)])) (fun t stp => XT.lload X0.here hx rfl (hb hby at_72) (by rw [hLa524]; rfl) stp) ?_
          refine own_up (S' := T0.setTop (mkF m 76 La524 [(.long u1), (.long u0)])) (fun t stp => XT.lload X0.here hx rfl (hb hby at_74) (by rw [hLa524]; rfl) stp) ?_
          refine own_up (S' := T0.setTop (mkF m 77 La524 [(.long (u0 - u1))])) (fun t stp => XT.lsub X0.here hx rfl (hb hby at_76) rfl stp) ?_
          obtain ⟨v2, h_v2⟩ : ∃ z : Int64, z = (u0 - u1) := ⟨_, rfl⟩
          rw [← h_v2]
          obtain ⟨La525, hLa525⟩ : ∃ L : Array Slot, L = #[.val (.long l0), .second, .val (.long l1), .second, .val (.long l2), .second, .val (.long u0), .second, .val (.long u1), .second, .val (.int sel), .val (.int mm), .val (.int (0 : Int32)), .val (.int (1 : Int32)), .val (.int (1 : Int32)), .val (.int (1 : Int32)), .val (.long u0), .second, .val (.long u1), .second, .val (.long v2), .second, .unset, .unset, .unset, .unset, .unset, .unset, .unset, .unset, .unset, .unset, .unset, .unset, .unset, .unset, .unset, .unset, .unset, .unset] := ⟨_, rfl⟩
          refine own_up (S' := T0.setTop (mkF m 79 La525 [])) (fun t stp => XT.lstore X0.here hx rfl (hb hby at_77) rfl (l' := La525) (by rw [hLa524, hLa525]; rfl) stp) ?_
          refine own_up (S' := T0.setTop (mkF m 81 La525 [(.long u1)])) (fun t stp => XT.lload X0.here hx rfl (hb hby at_79) (by rw [hLa525]; rfl) stp) ?_
          refine own_up (S' := T0.setTop (mkF m 83 La525 [(.long l2), (.long u1)])) (fun t stp => XT.lload X0.here hx rfl (hb hby at_81) (by rw [hLa525]; rfl) stp) ?_
          refine own_up (S' := T0.setTop (mkF m 84 La525 [(.long (u1 ^^^ l2))])) (fun t stp => XT.lxor X0.here hx rfl (hb hby at_83) rfl stp) ?_
          obtain ⟨v3, h_v3⟩ : ∃ z : Int64, z = (u1 ^^^ l2) := ⟨_, rfl⟩
          rw [← h_v3]
          obtain ⟨La526, hLa526⟩ : ∃ L : Array Slot, L = #[.val (.long l0), .second, .val (.long l1), .second, .val (.long l2), .second, .val (.long u0), .second, .val (.long u1), .second, .val (.int sel), .val (.int mm), .val (.int (0 : Int32)), .val (.int (1 : Int32)), .val (.int (1 : Int32)), .val (.int (1 : Int32)), .val (.long u0), .second, .val (.long u1), .second, .val (.long v2), .second, .val (.long v3), .second, .unset, .unset, .unset, .unset, .unset, .unset, .unset, .unset, .unset, .unset, .unset, .unset, .unset, .unset, .unset, .unset] := ⟨_, rfl⟩
          refine own_up (S' := T0.setTop (mkF m 86 La526 [])) (fun t stp => XT.lstore X0.here hx rfl (hb hby at_84) rfl (l' := La526) (by rw [hLa525, hLa526]; rfl) stp) ?_
          refine own_up (S' := T0.setTop (mkF m 88 La526 [(.int (0 : Int32))])) (fun t stp => XS.iload X0.here hx rfl (hb hby at_86) (by rw [hLa526]; rfl) stp) ?_
          have hc88_527 : (0 : Int32) = 0 := by decide
          refine own_up (S' := T0.setTop (mkF m 95 La526 [])) (fun t stp => XS.ifYes X0.here hx rfl (pc0 := 88) (pc' := 95) rfl (hb hby at_88) rfl (XT.i0_eq_t hc88_527) (by decide) (by decide) stp) ?_
          refine own_up (S' := T0.setTop (mkF m 96 La526 [(.int (0 : Int32))])) (fun t stp => XT.iconstV X0.here hx rfl (0 : Int32) (hb hby at_95) rfl stp) ?_
          refine own_up (S' := T0.setTop (mkF m 98 La526 [(.int (1 : Int32)), (.int (0 : Int32))])) (fun t stp => XS.iload X0.here hx rfl (hb hby at_96) (by rw [hLa526]; rfl) stp) ?_
          have hc98_528 : ¬ ((1 : Int32) = 0) := by decide
          refine own_up (S' := T0.setTop (mkF m 101 La526 [(.int (0 : Int32))])) (fun t stp => XS.ifNo X0.here hx rfl (hb hby at_98) rfl (XT.i0_eq_f hc98_528) stp) ?_
          refine own_up (S' := T0.setTop (mkF m 102 La526 [(.int (1 : Int32)), (.int (0 : Int32))])) (fun t stp => XT.iconstV X0.here hx rfl (1 : Int32) (hb hby at_101) rfl stp) ?_
          refine own_up (S' := T0.setTop (mkF m 106 La526 [(.int (1 : Int32)), (.int (0 : Int32))])) (fun t stp => XS.goto X0.here hx rfl (pc0 := 102) (pc' := 106) rfl (hb hby at_102) (by decide) (by decide) stp) ?_
          refine own_up (S' := T0.setTop (mkF m 107 La526 [(.int ((0 : Int32) + (1 : Int32)))])) (fun t stp => XS.iadd X0.here hx rfl (hb hby at_106) rfl stp) ?_
          refine own_up (S' := T0.setTop (mkF m 109 La526 [(.int (1 : Int32)), (.int ((0 : Int32) + (1 : Int32)))])) (fun t stp => XS.iload X0.here hx rfl (hb hby at_107) (by rw [hLa526]; rfl) stp) ?_
          have hc109_529 : ¬ ((1 : Int32) = 0) := hc98_528
          refine own_up (S' := T0.setTop (mkF m 112 La526 [(.int ((0 : Int32) + (1 : Int32)))])) (fun t stp => XS.ifNo X0.here hx rfl (hb hby at_109) rfl (XT.i0_eq_f hc109_529) stp) ?_
          refine own_up (S' := T0.setTop (mkF m 113 La526 [(.int (1 : Int32)), (.int ((0 : Int32) + (1 : Int32)))])) (fun t stp => XT.iconstV X0.here hx rfl (1 : Int32) (hb hby at_112) rfl stp) ?_
          refine own_up (S' := T0.setTop (mkF m 117 La526 [(.int (1 : Int32)), (.int ((0 : Int32) + (1 : Int32)))])) (fun t stp => XS.goto X0.here hx rfl (pc0 := 113) (pc' := 117) rfl (hb hby at_113) (by decide) (by decide) stp) ?_
          refine own_up (S' := T0.setTop (mkF m 118 La526 [(.int (((0 : Int32) + (1 : Int32)) + (1 : Int32)))])) (fun t stp => XS.iadd X0.here hx rfl (hb hby at_117) rfl stp) ?_
          refine own_up (S' := T0.setTop (mkF m 120 La526 [(.int (1 : Int32)), (.int (((0 : Int32) + (1 : Int32)) + (1 : Int32)))])) (fun t stp => XS.iload X0.here hx rfl (hb hby at_118) (by rw [hLa526]; rfl) stp) ?_
          have hc120_530 : ¬ ((1 : Int32) = 0) := hc98_528
          refine own_up (S' := T0.setTop (mkF m 123 La526 [(.int (((0 : Int32) + (1 : Int32)) + (1 : Int32)))])) (fun t stp => XS.ifNo X0.here hx rfl (hb hby at_120) rfl (XT.i0_eq_f hc120_530) stp) ?_
          refine own_up (S' := T0.setTop (mkF m 124 La526 [(.int (1 : Int32)), (.int (((0 : Int32) + (1 : Int32)) + (1 : Int32)))])) (fun t stp => XT.iconstV X0.here hx rfl (1 : Int32) (hb hby at_123) rfl stp) ?_
          refine own_up (S' := T0.setTop (mkF m 128 La526 [(.int (1 : Int32)), (.int (((0 : Int32) + (1 : Int32)) + (1 : Int32)))])) (fun t stp => XS.goto X0.here hx rfl (pc0 := 124) (pc' := 128) rfl (hb hby at_124) (by decide) (by decide) stp) ?_
          refine own_up (S' := T0.setTop (mkF m 129 La526 [(.int ((((0 : Int32) + (1 : Int32)) + (1 : Int32)) + (1 : Int32)))])) (fun t stp => XS.iadd X0.here hx rfl (hb hby at_128) rfl stp) ?_
          show own_Ends p e below s (own_Q0 Z l0 l1 l2 u0 u1 sel h0 n0) room_1.cells room_1.slots (T0.setTop (mkF m 129 La526 [(.int (3 : Int32))]))
          obtain ⟨La531, hLa531⟩ : ∃ L : Array Slot, L = #[.val (.long l0), .second, .val (.long l1), .second, .val (.long l2), .second, .val (.long u0), .second, .val (.long u1), .second, .val (.int sel), .val (.int mm), .val (.int (0 : Int32)), .val (.int (1 : Int32)), .val (.int (1 : Int32)), .val (.int (1 : Int32)), .val (.long u0), .second, .val (.long u1), .second, .val (.long v2), .second, .val (.long v3), .second, .val (.int (3 : Int32)), .unset, .unset, .unset, .unset, .unset, .unset, .unset, .unset, .unset, .unset, .unset, .unset, .unset, .unset, .unset] := ⟨_, rfl⟩
          refine own_up (S' := T0.setTop (mkF m 131 La531 [])) (fun t stp => XS.istore X0.here hx rfl (hb hby at_129) rfl (l' := La531) (by rw [hLa526, hLa531]; rfl) stp) ?_
          refine own_up (S' := T0.setTop (mkF m 133 La531 [(.int (3 : Int32))])) (fun t stp => XS.iload X0.here hx rfl (hb hby at_131) (by rw [hLa531]; rfl) stp) ?_
          refine own_newa X0 hx hZ (ty := .int) rfl (hw _ (List.mem_of_getElem? (i := 0) rfl)) e0 3 (hb hby at_133) (rfl) 3 (by decide) (by decide) (by decide) (by decide) rfl rfl ?_
          intro T532 h532 ad532 hb532 X532 e532 E532 A532
          have g_ad532 : n0 ≤ ad532 := Nat.le_trans Z0 (Nat.le_of_eq hb532.symm)
          have Zn533 := Nat.le_trans Z0 E532.1
          have Al532 : own_Al Z h532 ad532 .int [(.int (0 : Int32)), (.int (0 : Int32)), (.int (0 : Int32))] := A532
          show own_Ends p e below s (own_Q0 Z l0 l1 l2 u0 u1 sel h0 n0) room_1.cells room_1.slots (T532.setTop (mkF m 135 La531 [(.ref ad532)]))
          obtain ⟨La535, hLa535⟩ : ∃ L : Array Slot, L = #[.val (.long l0), .second, .val (.long l1), .second, .val (.long l2), .second, .val (.long u0), .second, .val (.long u1), .second, .val (.int sel), .val (.int mm), .val (.int (0 : Int32)), .val (.int (1 : Int32)), .val (.int (1 : Int32)), .val (.int (1 : Int32)), .val (.long u0), .second, .val (.long u1), .second, .val (.long v2), .second, .val (.long v3), .second, .val (.int (3 : Int32)), .val (.ref ad532), .unset, .unset, .unset, .unset, .unset, .unset, .unset, .unset, .unset, .unset, .unset, .unset, .unset, .unset] := ⟨_, rfl⟩
          refine own_up (S' := T532.setTop (mkF m 137 La535 [])) (fun t stp => XS.astore X532.here hx rfl (hb hby at_135) rfl rfl (l' := La535) (by rw [hLa531, hLa535]; rfl) stp) ?_
          refine own_up (S' := T532.setTop (mkF m 139 La535 [(.int (3 : Int32))])) (fun t stp => XS.iload X532.here hx rfl (hb hby at_137) (by rw [hLa535]; rfl) stp) ?_
          refine own_newa X532 hx hZ (ty := .long) rfl (hw _ (List.mem_of_getElem? (i := 1) rfl)) e532 3 (hb hby at_139) (rfl) 3 (by decide) (by decide) (by decide) (by decide) rfl rfl ?_
          intro T536 h536 ad536 hb536 X536 e536 E536 A536
          have ne536_ad532_ad536 : ad532 ≠ ad536 := Nat.ne_of_lt (Nat.lt_of_lt_of_eq (own_Al_lt Al532) hb536.symm)
          have g_ad536 : n0 ≤ ad536 := Nat.le_trans Zn533 (Nat.le_of_eq hb536.symm)
          have Zn537 := Nat.le_trans Zn533 E536.1
          have Al532_538 := own_Al_ext E536 Al532
          have Al536 : own_Al Z h536 ad536 .long [(.long (0 : Int64)), (.long (0 : Int64)), (.long (0 : Int64))] := A536
          show own_Ends p e below s (own_Q0 Z l0 l1 l2 u0 u1 sel h0 n0) room_1.cells room_1.slots (T536.setTop (mkF m 141 La535 [(.ref ad536)]))
          obtain ⟨La539, hLa539⟩ : ∃ L : Array Slot, L = #[.val (.long l0), .second, .val (.long l1), .second, .val (.long l2), .second, .val (.long u0), .second, .val (.long u1), .second, .val (.int sel), .val (.int mm), .val (.int (0 : Int32)), .val (.int (1 : Int32)), .val (.int (1 : Int32)), .val (.int (1 : Int32)), .val (.long u0), .second, .val (.long u1), .second, .val (.long v2), .second, .val (.long v3), .second, .val (.int (3 : Int32)), .val (.ref ad532), .val (.ref ad536), .unset, .unset, .unset, .unset, .unset, .unset, .unset, .unset, .unset, .unset, .unset, .unset, .unset] := ⟨_, rfl⟩
          refine own_up (S' := T536.setTop (mkF m 143 La539 [])) (fun t stp => XS.astore X536.here hx rfl (hb hby at_141) rfl rfl (l' := La539) (by rw [hLa535, hLa539]; rfl) stp) ?_
          refine own_up (S' := T536.setTop (mkF m 144 La539 [(.int (0 : Int32))])) (fun t stp => XT.iconstV X536.here hx rfl (0 : Int32) (hb hby at_143) rfl stp) ?_
          obtain ⟨La540, hLa540⟩ : ∃ L : Array Slot, L = #[.val (.long l0), .second, .val (.long l1), .second, .val (.long l2), .second, .val (.long u0), .second, .val (.long u1), .second, .val (.int sel), .val (.int mm), .val (.int (0 : Int32)), .val (.int (1 : Int32)), .val (.int (1 : Int32)), .val (.int (1 : Int32)), .val (.long u0), .second, .val (.long u1), .second, .val (.long v2), .second, .val (.long v3), .second, .val (.int (3 : Int32)), .val (.ref ad532), .val (.ref ad536), .val (.int (0 : Int32)), .unset, .unset, .unset, .unset, .unset, .unset, .unset, .unset, .unset, .unset, .unset, .unset] := ⟨_, rfl⟩
          refine own_up (S' := T536.setTop (mkF m 146 La540 [])) (fun t stp => XS.istore X536.here hx rfl (hb hby at_144) rfl (l' := La540) (by rw [hLa539, hLa540]; rfl) stp) ?_
          refine own_up (S' := T536.setTop (mkF m 148 La540 [(.int (0 : Int32))])) (fun t stp => XS.iload X536.here hx rfl (hb hby at_146) (by rw [hLa540]; rfl) stp) ?_
          have hc148_541 : (0 : Int32) = 0 := hc88_527
          refine own_up (S' := T536.setTop (mkF m 167 La540 [])) (fun t stp => XS.ifYes X536.here hx rfl (pc0 := 148) (pc' := 167) rfl (hb hby at_148) rfl (XT.i0_eq_t hc148_541) (by decide) (by decide) stp) ?_
          refine own_up (S' := T536.setTop (mkF m 169 La540 [(.int (1 : Int32))])) (fun t stp => XS.iload X536.here hx rfl (hb hby at_167) (by rw [hLa540]; rfl) stp) ?_
          have hc169_542 : ¬ ((1 : Int32) = 0) := hc98_528
          refine own_up (S' := T536.setTop (mkF m 172 La540 [])) (fun t stp => XS.ifNo X536.here hx rfl (hb hby at_169) rfl (XT.i0_eq_f hc169_542) stp) ?_
          refine own_up (S' := T536.setTop (mkF m 174 La540 [(.ref ad532)])) (fun t stp => XS.aload X536.here hx rfl (hb hby at_172) (by rw [hLa540]; rfl) rfl stp) ?_
          refine own_up (S' := T536.setTop (mkF m 176 La540 [(.int (0 : Int32)), (.ref ad532)])) (fun t stp => XS.iload X536.here hx rfl (hb hby at_174) (by rw [hLa540]; rfl) stp) ?_
          refine own_up (S' := T536.setTop (mkF m 177 La540 [(.int (1 : Int32)), (.int (0 : Int32)), (.ref ad532)])) (fun t stp => XT.iconstV X536.here hx rfl (1 : Int32) (hb hby at_176) rfl stp) ?_
          refine own_sti X536 hx hZ e536 Al532_538 0 (hb hby at_177) (rfl) (Nat.le_of_ble_eq_true rfl) rfl rfl (g' := (mkF m 178 La540 [])) rfl ?_
          intro T543 h543 X543 e543 W543 B543
          have Zn544 := Nat.le_trans Zn537 (Nat.le_of_eq W543.size.symm)
          have Al536_545 := own_Al_oth W543 Al536 (Ne.symm ne536_ad532_ad536)
          have N543 := Fr.snoc X543 N0 g_ad532
          have Al543 : own_Al Z h543 ad532 .int [(.int (1 : Int32)), (.int (0 : Int32)), (.int (0 : Int32))] := B543
          refine own_up (S' := T543.setTop (mkF m 180 La540 [(.ref ad536)])) (fun t stp => XS.aload X543.here hx rfl (hb hby at_178) (by rw [hLa540]; rfl) rfl stp) ?_
          refine own_up (S' := T543.setTop (mkF m 182 La540 [(.int (0 : Int32)), (.ref ad536)])) (fun t stp => XS.iload X543.here hx rfl (hb hby at_180) (by rw [hLa540]; rfl) stp) ?_
          refine own_up (S' := T543.setTop (mkF m 184 La540 [(.long u1), (.int (0 : Int32)), (.ref ad536)])) (fun t stp => XT.lload X543.here hx rfl (hb hby at_182) (by rw [hLa540]; rfl) stp) ?_
          refine own_stj X543 hx hZ e543 Al536_545 0 (hb hby at_184) (rfl) (Nat.le_of_ble_eq_true rfl) rfl rfl (g' := (mkF m 185 La540 [])) rfl ?_
          intro T546 h546 X546 e546 W546 B546
          have Zn547 := Nat.le_trans Zn544 (Nat.le_of_eq W546.size.symm)
          have Al543_548 := own_Al_oth W546 Al543 ne536_ad532_ad536
          have N546 := Fr.snoc X546 N543 g_ad536
          have Al546 : own_Al Z h546 ad536 .long [(.long u1), (.long (0 : Int64)), (.long (0 : Int64))] := B546
          obtain ⟨La549, hLa549⟩ : ∃ L : Array Slot, L = #[.val (.long l0), .second, .val (.long l1), .second, .val (.long l2), .second, .val (.long u0), .second, .val (.long u1), .second, .val (.int sel), .val (.int mm), .val (.int (0 : Int32)), .val (.int (1 : Int32)), .val (.int (1 : Int32)), .val (.int (1 : Int32)), .val (.long u0), .second, .val (.long u1), .second, .val (.long v2), .second, .val (.long v3), .second, .val (.int (3 : Int32)), .val (.ref ad532), .val (.ref ad536), .val (.int (1 : Int32)), .unset, .unset, .unset, .unset, .unset, .unset, .unset, .unset, .unset, .unset, .unset, .unset] := ⟨_, rfl⟩
          refine own_up (S' := T546.setTop (mkF m 188 La549 [])) (fun t stp => XT.iincV X546.here hx rfl (1 : Int32) (hb hby at_185) rfl (by rw [hLa540]; rfl) (l' := La549) (by rw [hLa540, hLa549]; rfl) stp) ?_
          refine own_up (S' := T546.setTop (mkF m 190 La549 [(.int (1 : Int32))])) (fun t stp => XS.iload X546.here hx rfl (hb hby at_188) (by rw [hLa549]; rfl) stp) ?_
          have hc190_550 : ¬ ((1 : Int32) = 0) := hc98_528
          refine own_up (S' := T546.setTop (mkF m 193 La549 [])) (fun t stp => XS.ifNo X546.here hx rfl (hb hby at_190) rfl (XT.i0_eq_f hc190_550) stp) ?_
          refine own_up (S' := T546.setTop (mkF m 195 La549 [(.ref ad532)])) (fun t stp => XS.aload X546.here hx rfl (hb hby at_193) (by rw [hLa549]; rfl) rfl stp) ?_
          refine own_up (S' := T546.setTop (mkF m 197 La549 [(.int (1 : Int32)), (.ref ad532)])) (fun t stp => XS.iload X546.here hx rfl (hb hby at_195) (by rw [hLa549]; rfl) stp) ?_
          refine own_up (S' := T546.setTop (mkF m 198 La549 [(.int (2 : Int32)), (.int (1 : Int32)), (.ref ad532)])) (fun t stp => XT.iconstV X546.here hx rfl (2 : Int32) (hb hby at_197) rfl stp) ?_
          refine own_sti X546 hx hZ e546 Al543_548 1 (hb hby at_198) (rfl) (Nat.le_of_ble_eq_true rfl) rfl rfl (g' := (mkF m 199 La549 [])) rfl ?_
          intro T551 h551 X551 e551 W551 B551
          have Zn552 := Nat.le_trans Zn547 (Nat.le_of_eq W551.size.symm)
          have Al546_553 := own_Al_oth W551 Al546 (Ne.symm ne536_ad532_ad536)
          have N551 := Fr.snoc X551 N546 g_ad532
          have Al551 : own_Al Z h551 ad532 .int [(.int (1 : Int32)), (.int (2 : Int32)), (.int (0 : Int32))] := B551
          refine own_up (S' := T551.setTop (mkF m 201 La549 [(.ref ad536)])) (fun t stp => XS.aload X551.here hx rfl (hb hby at_199) (by rw [hLa549]; rfl) rfl stp) ?_
          refine own_up (S' := T551.setTop (mkF m 203 La549 [(.int (1 : Int32)), (.ref ad536)])) (fun t stp => XS.iload X551.here hx rfl (hb hby at_201) (by rw [hLa549]; rfl) stp) ?_
          refine own_up (S' := T551.setTop (mkF m 205 La549 [(.long v2), (.int (1 : Int32)), (.ref ad536)])) (fun t stp => XT.lload X551.here hx rfl (hb hby at_203) (by rw [hLa549]; rfl) stp) ?_
          refine own_stj X551 hx hZ e551 Al546_553 1 (hb hby at_205) (rfl) (Nat.le_of_ble_eq_true rfl) rfl rfl (g' := (mkF m 206 La549 [])) rfl ?_
          intro T554 h554 X554 e554 W554 B554
          have Zn555 := Nat.le_trans Zn552 (Nat.le_of_eq W554.size.symm)
          have Al551_556 := own_Al_oth W554 Al551 ne536_ad532_ad536
          have N554 := Fr.snoc X554 N551 g_ad536
          have Al554 : own_Al Z h554 ad536 .long [(.long u1), (.long v2), (.long (0 : Int64))] := B554
          obtain ⟨La557, hLa557⟩ : ∃ L : Array Slot, L = #[.val (.long l0), .second, .val (.long l1), .second, .val (.long l2), .second, .val (.long u0), .second, .val (.long u1), .second, .val (.int sel), .val (.int mm), .val (.int (0 : Int32)), .val (.int (1 : Int32)), .val (.int (1 : Int32)), .val (.int (1 : Int32)), .val (.long u0), .second, .val (.long u1), .second, .val (.long v2), .second, .val (.long v3), .second, .val (.int (3 : Int32)), .val (.ref ad532), .val (.ref ad536), .val (.int (2 : Int32)), .unset, .unset, .unset, .unset, .unset, .unset, .unset, .unset, .unset, .unset, .unset, .unset] := ⟨_, rfl⟩
          refine own_up (S' := T554.setTop (mkF m 209 La557 [])) (fun t stp => XT.iincV X554.here hx rfl (1 : Int32) (hb hby at_206) rfl (by rw [hLa549]; rfl) (l' := La557) (by rw [hLa549, hLa557]; rfl) stp) ?_
          refine own_up (S' := T554.setTop (mkF m 211 La557 [(.int (1 : Int32))])) (fun t stp => XS.iload X554.here hx rfl (hb hby at_209) (by rw [hLa557]; rfl) stp) ?_
          have hc211_558 : ¬ ((1 : Int32) = 0) := hc98_528
          refine own_up (S' := T554.setTop (mkF m 214 La557 [])) (fun t stp => XS.ifNo X554.here hx rfl (hb hby at_211) rfl (XT.i0_eq_f hc211_558) stp) ?_
          refine own_up (S' := T554.setTop (mkF m 216 La557 [(.ref ad532)])) (fun t stp => XS.aload X554.here hx rfl (hb hby at_214) (by rw [hLa557]; rfl) rfl stp) ?_
          refine own_up (S' := T554.setTop (mkF m 218 La557 [(.int (2 : Int32)), (.ref ad532)])) (fun t stp => XS.iload X554.here hx rfl (hb hby at_216) (by rw [hLa557]; rfl) stp) ?_
          refine own_up (S' := T554.setTop (mkF m 219 La557 [(.int (3 : Int32)), (.int (2 : Int32)), (.ref ad532)])) (fun t stp => XT.iconstV X554.here hx rfl (3 : Int32) (hb hby at_218) rfl stp) ?_
          refine own_sti X554 hx hZ e554 Al551_556 2 (hb hby at_219) (rfl) (Nat.le_of_ble_eq_true rfl) rfl rfl (g' := (mkF m 220 La557 [])) rfl ?_
          intro T559 h559 X559 e559 W559 B559
          have Zn560 := Nat.le_trans Zn555 (Nat.le_of_eq W559.size.symm)
          have Al554_561 := own_Al_oth W559 Al554 (Ne.symm ne536_ad532_ad536)
          have N559 := Fr.snoc X559 N554 g_ad532
          have Al559 : own_Al Z h559 ad532 .int [(.int (1 : Int32)), (.int (2 : Int32)), (.int (3 : Int32))] := B559
          refine own_up (S' := T559.setTop (mkF m 222 La557 [(.ref ad536)])) (fun t stp => XS.aload X559.here hx rfl (hb hby at_220) (by rw [hLa557]; rfl) rfl stp) ?_
          refine own_up (S' := T559.setTop (mkF m 224 La557 [(.int (2 : Int32)), (.ref ad536)])) (fun t stp => XS.iload X559.here hx rfl (hb hby at_222) (by rw [hLa557]; rfl) stp) ?_
          refine own_up (S' := T559.setTop (mkF m 226 La557 [(.long v3), (.int (2 : Int32)), (.ref ad536)])) (fun t stp => XT.lload X559.here hx rfl (hb hby at_224) (by rw [hLa557]; rfl) stp) ?_
          refine own_stj X559 hx hZ e559 Al554_561 2 (hb hby at_226) (rfl) (Nat.le_of_ble_eq_true rfl) rfl rfl (g' := (mkF m 227 La557 [])) rfl ?_
          intro T562 h562 X562 e562 W562 B562
          have Zn563 := Nat.le_trans Zn560 (Nat.le_of_eq W562.size.symm)
          have Al559_564 := own_Al_oth W562 Al559 ne536_ad532_ad536
          have N562 := Fr.snoc X562 N559 g_ad536
          have Al562 : own_Al Z h562 ad536 .long [(.long u1), (.long v2), (.long v3)] := B562
          obtain ⟨La565, hLa565⟩ : ∃ L : Array Slot, L = #[.val (.long l0), .second, .val (.long l1), .second, .val (.long l2), .second, .val (.long u0), .second, .val (.long u1), .second, .val (.int sel), .val (.int mm), .val (.int (0 : Int32)), .val (.int (1 : Int32)), .val (.int (1 : Int32)), .val (.int (1 : Int32)), .val (.long u0), .second, .val (.long u1), .second, .val (.long v2), .second, .val (.long v3), .second, .val (.int (3 : Int32)), .val (.ref ad532), .val (.ref ad536), .val (.int (3 : Int32)), .unset, .unset, .unset, .unset, .unset, .unset, .unset, .unset, .unset, .unset, .unset, .unset] := ⟨_, rfl⟩
          refine own_up (S' := T562.setTop (mkF m 230 La565 [])) (fun t stp => XT.iincV X562.here hx rfl (1 : Int32) (hb hby at_227) rfl (by rw [hLa557]; rfl) (l' := La565) (by rw [hLa557, hLa565]; rfl) stp) ?_
          refine own_up (S' := T562.setTop (mkF m 231 La565 [(.long l0)])) (fun t stp => XT.lloadN X562.here hx rfl (hb hby at_230) (by rw [hLa565]; rfl) stp) ?_
          refine own_up (S' := T562.setTop (mkF m 232 La565 [(.long l1), (.long l0)])) (fun t stp => XT.lloadN X562.here hx rfl (hb hby at_231) (by rw [hLa565]; rfl) stp) ?_
          refine own_up (S' := T562.setTop (mkF m 233 La565 [(.long (l0 ^^^ l1))])) (fun t stp => XT.lxor X562.here hx rfl (hb hby at_232) rfl stp) ?_
          obtain ⟨l3, h_l3⟩ : ∃ z : Int64, z = (l0 ^^^ l1) := ⟨_, rfl⟩
          rw [← h_l3]
          obtain ⟨La566, hLa566⟩ : ∃ L : Array Slot, L = #[.val (.long l0), .second, .val (.long l1), .second, .val (.long l2), .second, .val (.long u0), .second, .val (.long u1), .second, .val (.int sel), .val (.int mm), .val (.int (0 : Int32)), .val (.int (1 : Int32)), .val (.int (1 : Int32)), .val (.int (1 : Int32)), .val (.long u0), .second, .val (.long u1), .second, .val (.long v2), .second, .val (.long v3), .second, .val (.int (3 : Int32)), .val (.ref ad532), .val (.ref ad536), .val (.int (3 : Int32)), .val (.long l3), .second, .unset, .unset, .unset, .unset, .unset, .unset, .unset, .unset, .unset, .unset] := ⟨_, rfl⟩
          refine own_up (S' := T562.setTop (mkF m 235 La566 [])) (fun t stp => XT.lstore X562.here hx rfl (hb hby at_233) rfl (l' := La566) (by rw [hLa565, hLa566]; rfl) stp) ?_
          refine own_up (S' := T562.setTop (mkF m 236 La566 [(.int (4 : Int32))])) (fun t stp => XT.iconstV X562.here hx rfl (4 : Int32) (hb hby at_235) rfl stp) ?_
          refine own_newa X562 hx hZ (ty := .long) rfl (hw _ (List.mem_of_getElem? (i := 1) rfl)) e562 4 (hb hby at_236) (rfl) 4 (by decide) (by decide) (by decide) (by decide) rfl rfl ?_
          intro T567 h567 ad567 hb567 X567 e567 E567 A567
          have ne567_ad532_ad567 : ad532 ≠ ad567 := Nat.ne_of_lt (Nat.lt_of_lt_of_eq (own_Al_lt Al559_564) hb567.symm)
          have ne567_ad536_ad567 : ad536 ≠ ad567 := Nat.ne_of_lt (Nat.lt_of_lt_of_eq (own_Al_lt Al562) hb567.symm)
          have g_ad567 : n0 ≤ ad567 := Nat.le_trans Zn563 (Nat.le_of_eq hb567.symm)
          have Zn568 := Nat.le_trans Zn563 E567.1
          have Al559_569 := own_Al_ext E567 Al559_564
          have Al562_569 := own_Al_ext E567 Al562
          have Al567 : own_Al Z h567 ad567 .long [(.long (0 : Int64)), (.long (0 : Int64)), (.long (0 : Int64)), (.long (0 : Int64))] := A567
          show own_Ends p e below s (own_Q0 Z l0 l1 l2 u0 u1 sel h0 n0) room_1.cells room_1.slots (T567.setTop (mkF m 238 La566 [(.ref ad567)]))
          refine own_up (S' := T567.setTop (mkF m 239 La566 [(.ref ad567), (.ref ad567)])) (fun t stp => XS.dup X567.here hx rfl (hb hby at_238) rfl rfl stp) ?_
          refine own_up (S' := T567.setTop (mkF m 240 La566 [(.int (0 : Int32)), (.ref ad567), (.ref ad567)])) (fun t stp => XT.iconstV X567.here hx rfl (0 : Int32) (hb hby at_239) rfl stp) ?_
          refine own_up (S' := T567.setTop (mkF m 241 La566 [(.long l0), (.int (0 : Int32)), (.ref ad567), (.ref ad567)])) (fun t stp => XT.lloadN X567.here hx rfl (hb hby at_240) (by rw [hLa566]; rfl) stp) ?_
          refine own_stj X567 hx hZ e567 Al567 0 (hb hby at_241) (rfl) (Nat.le_of_ble_eq_true rfl) rfl rfl (g' := (mkF m 242 La566 [(.ref ad567)])) rfl ?_
          intro T570 h570 X570 e570 W570 B570
          have Zn571 := Nat.le_trans Zn568 (Nat.le_of_eq W570.size.symm)
          have Al559_572 := own_Al_oth W570 Al559_569 ne567_ad532_ad567
          have Al562_572 := own_Al_oth W570 Al562_569 ne567_ad536_ad567
          have N570 := Fr.snoc X570 N562 g_ad567
          have Al570 : own_Al Z h570 ad567 .long [(.long l0), (.long (0 : Int64)), (.long (0 : Int64)), (.long (0 : Int64))] := B570
          refine own_up (S' := T570.setTop (mkF m 243 La566 [(.ref ad567), (.ref ad567)])) (fun t stp => XS.dup X570.here hx rfl (hb hby at_242) rfl rfl stp) ?_
          refine own_up (S' := T570.setTop (mkF m 244 La566 [(.int (1 : Int32)), (.ref ad567), (.ref ad567)])) (fun t stp => XT.iconstV X570.here hx rfl (1 : Int32) (hb hby at_243) rfl stp) ?_
          refine own_up (S' := T570.setTop (mkF m 245 La566 [(.long l1), (.int (1 : Int32)), (.ref ad567), (.ref ad567)])) (fun t stp => XT.lloadN X570.here hx rfl (hb hby at_244) (by rw [hLa566]; rfl) stp) ?_
          refine own_stj X570 hx hZ e570 Al570 1 (hb hby at_245) (rfl) (Nat.le_of_ble_eq_true rfl) rfl rfl (g' := (mkF m 246 La566 [(.ref ad567)])) rfl ?_
          intro T573 h573 X573 e573 W573 B573
          have Zn574 := Nat.le_trans Zn571 (Nat.le_of_eq W573.size.symm)
          have Al559_575 := own_Al_oth W573 Al559_572 ne567_ad532_ad567
          have Al562_575 := own_Al_oth W573 Al562_572 ne567_ad536_ad567
          have N573 := Fr.snoc X573 N570 g_ad567
          have Al573 : own_Al Z h573 ad567 .long [(.long l0), (.long l1), (.long (0 : Int64)), (.long (0 : Int64))] := B573
          refine own_up (S' := T573.setTop (mkF m 247 La566 [(.ref ad567), (.ref ad567)])) (fun t stp => XS.dup X573.here hx rfl (hb hby at_246) rfl rfl stp) ?_
          refine own_up (S' := T573.setTop (mkF m 248 La566 [(.int (2 : Int32)), (.ref ad567), (.ref ad567)])) (fun t stp => XT.iconstV X573.here hx rfl (2 : Int32) (hb hby at_247) rfl stp) ?_
          refine own_up (S' := T573.setTop (mkF m 250 La566 [(.long l2), (.int (2 : Int32)), (.ref ad567), (.ref ad567)])) (fun t stp => XT.lload X573.here hx rfl (hb hby at_248) (by rw [hLa566]; rfl) stp) ?_
          refine own_stj X573 hx hZ e573 Al573 2 (hb hby at_250) (rfl) (Nat.le_of_ble_eq_true rfl) rfl rfl (g' := (mkF m 251 La566 [(.ref ad567)])) rfl ?_
          intro T576 h576 X576 e576 W576 B576
          have Zn577 := Nat.le_trans Zn574 (Nat.le_of_eq W576.size.symm)
          have Al559_578 := own_Al_oth W576 Al559_575 ne567_ad532_ad567
          have Al562_578 := own_Al_oth W576 Al562_575 ne567_ad536_ad567
          have N576 := Fr.snoc X576 N573 g_ad567
          have Al576 : own_Al Z h576 ad567 .long [(.long l0), (.long l1), (.long l2), (.long (0 : Int64))] := B576
          refine own_up (S' := T576.setTop (mkF m 252 La566 [(.ref ad567), (.ref ad567)])) (fun t stp => XS.dup X576.here hx rfl (hb hby at_251) rfl rfl stp) ?_
          refine own_up (S' := T576.setTop (mkF m 253 La566 [(.int (3 : Int32)), (.ref ad567), (.ref ad567)])) (fun t stp => XT.iconstV X576.here hx rfl (3 : Int32) (hb hby at_252) rfl stp) ?_
          refine own_up (S' := T576.setTop (mkF m 255 La566 [(.long l3), (.int (3 : Int32)), (.ref ad567), (.ref ad567)])) (fun t stp => XT.lload X576.here hx rfl (hb hby at_253) (by rw [hLa566]; rfl) stp) ?_
          refine own_stj X576 hx hZ e576 Al576 3 (hb hby at_255) (rfl) (Nat.le_of_ble_eq_true rfl) rfl rfl (g' := (mkF m 256 La566 [(.ref ad567)])) rfl ?_
          intro T579 h579 X579 e579 W579 B579
          have Zn580 := Nat.le_trans Zn577 (Nat.le_of_eq W579.size.symm)
          have Al559_581 := own_Al_oth W579 Al559_578 ne567_ad532_ad567
          have Al562_581 := own_Al_oth W579 Al562_578 ne567_ad536_ad567
          have N579 := Fr.snoc X579 N576 g_ad567
          have Al579 : own_Al Z h579 ad567 .long [(.long l0), (.long l1), (.long l2), (.long l3)] := B579
          obtain ⟨La582, hLa582⟩ : ∃ L : Array Slot, L = #[.val (.long l0), .second, .val (.long l1), .second, .val (.long l2), .second, .val (.long u0), .second, .val (.long u1), .second, .val (.int sel), .val (.int mm), .val (.int (0 : Int32)), .val (.int (1 : Int32)), .val (.int (1 : Int32)), .val (.int (1 : Int32)), .val (.long u0), .second, .val (.long u1), .second, .val (.long v2), .second, .val (.long v3), .second, .val (.int (3 : Int32)), .val (.ref ad532), .val (.ref ad536), .val (.int (3 : Int32)), .val (.long l3), .second, .val (.ref ad567), .unset, .unset, .unset, .unset, .unset, .unset, .unset, .unset, .unset] := ⟨_, rfl⟩
          refine own_up (S' := T579.setTop (mkF m 258 La582 [])) (fun t stp => XS.astore X579.here hx rfl (hb hby at_256) rfl rfl (l' := La582) (by rw [hLa566, hLa582]; rfl) stp) ?_
          refine own_new X579 hx hZ hown (hw _ (List.mem_of_getElem? (i := 2) rfl)) (hw _ (List.mem_of_getElem? (i := 3) rfl)) (hw _ (List.mem_of_getElem? (i := 4) rfl)) e579 rfl (hb hby at_258) (by decide) (by decide) ?_
          intro T583 h583 ob hb583 X583 e583 E583 A583 D583
          have ne583_ad532_ob : ad532 ≠ ob := Nat.ne_of_lt (Nat.lt_of_lt_of_eq (own_Al_lt Al559_581) hb583.symm)
          have ne583_ad536_ob : ad536 ≠ ob := Nat.ne_of_lt (Nat.lt_of_lt_of_eq (own_Al_lt Al562_581) hb583.symm)
          have ne583_ad567_ob : ad567 ≠ ob := Nat.ne_of_lt (Nat.lt_of_lt_of_eq (own_Al_lt Al579) hb583.symm)
          have g_ob : n0 ≤ ob := Nat.le_trans Zn580 (Nat.le_of_eq hb583.symm)
          have Zn584 := Nat.le_trans Zn580 E583.1
          have Al559_585 := own_Al_ext E583 Al559_581
          have Al562_585 := own_Al_ext E583 Al562_581
          have Al579_585 := own_Al_ext E583 Al579
          have Fresources_ob : Fld Z h583 ob "com/example/outcry/outcry/combinatorial/Bundle" "resources" "[I" .null := D583 (Or.inr (hw _ (List.mem_of_getElem? (i := 17) rfl))) (ty := (.array .int)) (by decide)
          have Funits_ob : Fld Z h583 ob "com/example/outcry/outcry/combinatorial/Bundle" "units" "[J" .null := D583 (Or.inr (hw _ (List.mem_of_getElem? (i := 19) rfl))) (ty := (.array .long)) (by decide)
          show own_Ends p e below s (own_Q0 Z l0 l1 l2 u0 u1 sel h0 n0) room_1.cells room_1.slots (T583.setTop (mkF m 261 La582 [(.ref ob)]))
          refine own_up (S' := T583.setTop (mkF m 262 La582 [(.ref ob), (.ref ob)])) (fun t stp => XS.dup X583.here hx rfl (hb hby at_261) rfl rfl stp) ?_
          refine own_up (S' := T583.setTop (mkF m 264 La582 [(.ref ad532), (.ref ob), (.ref ob)])) (fun t stp => XS.aload X583.here hx rfl (hb hby at_262) (by rw [hLa582]; rfl) rfl stp) ?_
          refine own_up (S' := T583.setTop (mkF m 266 La582 [(.ref ad536), (.ref ad532), (.ref ob), (.ref ob)])) (fun t stp => XS.aload X583.here hx rfl (hb hby at_264) (by rw [hLa582]; rfl) rfl stp) ?_
          refine own_callI X583 hx hZ rfl hown (hw _ (List.mem_of_getElem? (i := 5) rfl)) (hw _ (List.mem_of_getElem? (i := 6) rfl)) (hw _ (List.mem_of_getElem? (i := 4) rfl)) (hw _ (List.mem_of_getElem? (i := 7) rfl)) (by decide) e583 (rm2 l Z a0 hw [] ob ad532 ad536 h583 n0 Zn584 Fresources_ob Funits_ob A583 g_ob) 1 ob [(.ref ad532), (.ref ad536)] [(.ref ob)] (hb hby at_266) (lenOf own_pd1 rfl) (by decide) (by decide) (by decide) (by decide) rfl (by rw [hml, hLa582]; rfl) rfl (by show 2 * 0 + _ ≤ _; exact Nat.le_of_eq rfl) rfl ?_
          intro T586 L586 r586 X586 q586
          obtain ⟨rfl, M586, K586, G586a_586, G586b_586⟩ := q586
          have N586 := Fr.app N579 M586
          have Zn587 := Nat.le_trans Zn584 K586.1
          have Al559_588 := own_Al_keep K586 Al559_585 (ninS ne583_ad532_ob nin0)
          have Al562_588 := own_Al_keep K586 Al562_585 (ninS ne583_ad536_ob nin0)
          have Al579_588 := own_Al_keep K586 Al579_585 (ninS ne583_ad567_ob nin0)
          have A583_588 := A583.keep K586
          show own_Ends p e below s (own_Q0 Z l0 l1 l2 u0 u1 sel h0 n0) room_1.cells room_1.slots (T586.setTop (mkF m 269 La582 [(.ref ob)]))
          obtain ⟨La589, hLa589⟩ : ∃ L : Array Slot, L = #[.val (.long l0), .second, .val (.long l1), .second, .val (.long l2), .second, .val (.long u0), .second, .val (.long u1), .second, .val (.int sel), .val (.int mm), .val (.int (0 : Int32)), .val (.int (1 : Int32)), .val (.int (1 : Int32)), .val (.int (1 : Int32)), .val (.long u0), .second, .val (.long u1), .second, .val (.long v2), .second, .val (.long v3), .second, .val (.int (3 : Int32)), .val (.ref ad532), .val (.ref ad536), .val (.int (3 : Int32)), .val (.long l3), .second, .val (.ref ad567), .val (.ref ob), .unset, .unset, .unset, .unset, .unset, .unset, .unset, .unset] := ⟨_, rfl⟩
          refine own_up (S' := T586.setTop (mkF m 271 La589 [])) (fun t stp => XS.astore X586.here hx rfl (hb hby at_269) rfl rfl (l' := La589) (by rw [hLa582, hLa589]; rfl) stp) ?_
          refine own_up (S' := T586.setTop (mkF m 273 La589 [(.ref ob)])) (fun t stp => XS.aload X586.here hx rfl (hb hby at_271) (by rw [hLa589]; rfl) rfl stp) ?_
          refine own_up (S' := T586.setTop (mkF m 275 La589 [(.ref ad567), (.ref ob)])) (fun t stp => XS.aload X586.here hx rfl (hb hby at_273) (by rw [hLa589]; rfl) rfl stp) ?_
          refine own_callV X586 hx hZ hown (hw _ (List.mem_of_getElem? (i := 20) rfl)) (hw _ (List.mem_of_getElem? (i := 21) rfl)) (hw _ (List.mem_of_getElem? (i := 23) rfl)) (hw _ (List.mem_of_getElem? (i := 22) rfl)) (hw _ (List.mem_of_getElem? (i := 4) rfl)) (hw _ (List.mem_of_getElem? (i := 24) rfl)) (by decide) rfl (rm13 l Z a0 hw [] ob ad567 ad532 ad536 [(.long l0), (.long l1), (.long l2), (.long l3)] (1 : Int32) u1 (1) l1 (2 : Int32) v2 (2) l2 (3 : Int32) v3 (3) l3 T586.heap n0 Zn587 G586a_586 G586b_586 Al559_588 Al562_588 Al579_588 g_ad567 ne567_ad532_ad567 ne567_ad536_ad567 (Ne.symm ne583_ad567_ob) (rfl) (rfl) (rfl) (rfl) (rfl) (rfl)) 0 A583_588 [(.ref ad567)] [] (hb hby at_275) (lenOf own_pd2 rfl) (by decide) (by decide) (by decide) (by decide) rfl (by rw [hml, hLa589]; rfl) rfl (by show 2 * 0 + _ ≤ _; exact Nat.le_of_eq rfl) rfl ?_
          intro T590 L590 r590 X590 q590
          obtain ⟨rfl, M590, K590, G590a_590⟩ := q590
          have N590 := Fr.app N586 M590
          have Zn591 := Nat.le_trans Zn587 K590.1
          have Al559_592 := own_Al_keep K590 Al559_588 (ninS ne567_ad532_ad567 nin0)
          have Al562_592 := own_Al_keep K590 Al562_588 (ninS ne567_ad536_ad567 nin0)
          have A583_592 := A583_588.keep K590
          have G586a_592 := G586a_586.keep K590 (ninS (Ne.symm ne583_ad567_ob) nin0)
          have G586b_592 := G586b_586.keep K590 (ninS (Ne.symm ne583_ad567_ob) nin0)
          show own_Ends p e below s (own_Q0 Z l0 l1 l2 u0 u1 sel h0 n0) room_1.cells room_1.slots (T590.setTop (mkF m 278 La589 []))
          have Tk590 : own_Al Z T590.heap ad567 .long [(.long l0), (.long (l1 - u1)), (.long (l2 - v2)), (.long (l3 - v3))] := G590a_590
          refine own_up (S' := T590.setTop (mkF m 280 La589 [(.int (0 : Int32))])) (fun t stp => XS.iload X590.here hx rfl (hb hby at_278) (by rw [hLa589]; rfl) stp) ?_
          have hc280_593 : (0 : Int32) = 0 := hc88_527
          refine own_up (S' := T590.setTop (mkF m 290 La589 [])) (fun t stp => XS.ifYes X590.here hx rfl (pc0 := 280) (pc' := 290) rfl (hb hby at_280) rfl (XT.i0_eq_t hc280_593) (by decide) (by decide) stp) ?_
          refine own_up (S' := T590.setTop (mkF m 291 La589 [(.long l0)])) (fun t stp => XT.lloadN X590.here hx rfl (hb hby at_290) (by rw [hLa589]; rfl) stp) ?_
          obtain ⟨La594, hLa594⟩ : ∃ L : Array Slot, L = #[.val (.long l0), .second, .val (.long l1), .second, .val (.long l2), .second, .val (.long u0), .second, .val (.long u1), .second, .val (.int sel), .val (.int mm), .val (.int (0 : Int32)), .val (.int (1 : Int32)), .val (.int (1 : Int32)), .val (.int (1 : Int32)), .val (.long u0), .second, .val (.long u1), .second, .val (.long v2), .second, .val (.long v3), .second, .val (.int (3 : Int32)), .val (.ref ad532), .val (.ref ad536), .val (.int (3 : Int32)), .val (.long l3), .second, .val (.ref ad567), .val (.ref ob), .val (.long l0), .second, .unset, .unset, .unset, .unset, .unset, .unset] := ⟨_, rfl⟩
          refine own_up (S' := T590.setTop (mkF m 293 La594 [])) (fun t stp => XT.lstore X590.here hx rfl (hb hby at_291) rfl (l' := La594) (by rw [hLa589, hLa594]; rfl) stp) ?_
          refine own_up (S' := T590.setTop (mkF m 295 La594 [(.int (1 : Int32))])) (fun t stp => XS.iload X590.here hx rfl (hb hby at_293) (by rw [hLa594]; rfl) stp) ?_
          have hc295_595 : ¬ ((1 : Int32) = 0) := hc98_528
          refine own_up (S' := T590.setTop (mkF m 298 La594 [])) (fun t stp => XS.ifNo X590.here hx rfl (hb hby at_295) rfl (XT.i0_eq_f hc295_595) stp) ?_
          refine own_up (S' := T590.setTop (mkF m 299 La594 [(.long l1)])) (fun t stp => XT.lloadN X590.here hx rfl (hb hby at_298) (by rw [hLa594]; rfl) stp) ?_
          refine own_up (S' := T590.setTop (mkF m 301 La594 [(.long u1), (.long l1)])) (fun t stp => XT.lload X590.here hx rfl (hb hby at_299) (by rw [hLa594]; rfl) stp) ?_
          refine own_up (S' := T590.setTop (mkF m 302 La594 [(.long (l1 - u1))])) (fun t stp => XT.lsub X590.here hx rfl (hb hby at_301) rfl stp) ?_
          refine own_up (S' := T590.setTop (mkF m 306 La594 [(.long (l1 - u1))])) (fun t stp => XS.goto X590.here hx rfl (pc0 := 302) (pc' := 306) rfl (hb hby at_302) (by decide) (by decide) stp) ?_
          obtain ⟨e1q, h_e1q⟩ : ∃ z : Int64, z = (l1 - u1) := ⟨_, rfl⟩
          rw [← h_e1q]
          obtain ⟨La596, hLa596⟩ : ∃ L : Array Slot, L = #[.val (.long l0), .second, .val (.long l1), .second, .val (.long l2), .second, .val (.long u0), .second, .val (.long u1), .second, .val (.int sel), .val (.int mm), .val (.int (0 : Int32)), .val (.int (1 : Int32)), .val (.int (1 : Int32)), .val (.int (1 : Int32)), .val (.long u0), .second, .val (.long u1), .second, .val (.long v2), .second, .val (.long v3), .second, .val (.int (3 : Int32)), .val (.ref ad532), .val (.ref ad536), .val (.int (3 : Int32)), .val (.long l3), .second, .val (.ref ad567), .val (.ref ob), .val (.long l0), .second, .val (.long e1q), .second, .unset, .unset, .unset, .unset] := ⟨_, rfl⟩
          refine own_up (S' := T590.setTop (mkF m 308 La596 [])) (fun t stp => XT.lstore X590.here hx rfl (hb hby at_306) rfl (l' := La596) (by rw [hLa594, hLa596]; rfl) stp) ?_
          refine own_up (S' := T590.setTop (mkF m 310 La596 [(.int (1 : Int32))])) (fun t stp => XS.iload X590.here hx rfl (hb hby at_308) (by rw [hLa596]; rfl) stp) ?_
          have hc310_597 : ¬ ((1 : Int32) = 0) := hc98_528
          refine own_up (S' := T590.setTop (mkF m 313 La596 [])) (fun t stp => XS.ifNo X590.here hx rfl (hb hby at_310) rfl (XT.i0_eq_f hc310_597) stp) ?_
          refine own_up (S' := T590.setTop (mkF m 315 La596 [(.long l2)])) (fun t stp => XT.lload X590.here hx rfl (hb hby at_313) (by rw [hLa596]; rfl) stp) ?_
          refine own_up (S' := T590.setTop (mkF m 317 La596 [(.long v2), (.long l2)])) (fun t stp => XT.lload X590.here hx rfl (hb hby at_315) (by rw [hLa596]; rfl) stp) ?_
          refine own_up (S' := T590.setTop (mkF m 318 La596 [(.long (l2 - v2))])) (fun t stp => XT.lsub X590.here hx rfl (hb hby at_317) rfl stp) ?_
          refine own_up (S' := T590.setTop (mkF m 323 La596 [(.long (l2 - v2))])) (fun t stp => XS.goto X590.here hx rfl (pc0 := 318) (pc' := 323) rfl (hb hby at_318) (by decide) (by decide) stp) ?_
          obtain ⟨e2q, h_e2q⟩ : ∃ z : Int64, z = (l2 - v2) := ⟨_, rfl⟩
          rw [← h_e2q]
          obtain ⟨La598, hLa598⟩ : ∃ L : Array Slot, L = #[.val (.long l0), .second, .val (.long l1), .second, .val (.long l2), .second, .val (.long u0), .second, .val (.long u1), .second, .val (.int sel), .val (.int mm), .val (.int (0 : Int32)), .val (.int (1 : Int32)), .val (.int (1 : Int32)), .val (.int (1 : Int32)), .val (.long u0), .second, .val (.long u1), .second, .val (.long v2), .second, .val (.long v3), .second, .val (.int (3 : Int32)), .val (.ref ad532), .val (.ref ad536), .val (.int (3 : Int32)), .val (.long l3), .second, .val (.ref ad567), .val (.ref ob), .val (.long l0), .second, .val (.long e1q), .second, .val (.long e2q), .second, .unset, .unset] := ⟨_, rfl⟩
          refine own_up (S' := T590.setTop (mkF m 325 La598 [])) (fun t stp => XT.lstore X590.here hx rfl (hb hby at_323) rfl (l' := La598) (by rw [hLa596, hLa598]; rfl) stp) ?_
          refine own_up (S' := T590.setTop (mkF m 327 La598 [(.int (1 : Int32))])) (fun t stp => XS.iload X590.here hx rfl (hb hby at_325) (by rw [hLa598]; rfl) stp) ?_
          have hc327_599 : ¬ ((1 : Int32) = 0) := hc98_528
          refine own_up (S' := T590.setTop (mkF m 330 La598 [])) (fun t stp => XS.ifNo X590.here hx rfl (hb hby at_327) rfl (XT.i0_eq_f hc327_599) stp) ?_
          refine own_up (S' := T590.setTop (mkF m 332 La598 [(.long l3)])) (fun t stp => XT.lload X590.here hx rfl (hb hby at_330) (by rw [hLa598]; rfl) stp) ?_
          refine own_up (S' := T590.setTop (mkF m 334 La598 [(.long v3), (.long l3)])) (fun t stp => XT.lload X590.here hx rfl (hb hby at_332) (by rw [hLa598]; rfl) stp) ?_
          refine own_up (S' := T590.setTop (mkF m 335 La598 [(.long (l3 - v3))])) (fun t stp => XT.lsub X590.here hx rfl (hb hby at_334) rfl stp) ?_
          refine own_up (S' := T590.setTop (mkF m 340 La598 [(.long (l3 - v3))])) (fun t stp => XS.goto X590.here hx rfl (pc0 := 335) (pc' := 340) rfl (hb hby at_335) (by decide) (by decide) stp) ?_
          obtain ⟨e3q, h_e3q⟩ : ∃ z : Int64, z = (l3 - v3) := ⟨_, rfl⟩
          rw [← h_e3q]
          obtain ⟨La600, hLa600⟩ : ∃ L : Array Slot, L = #[.val (.long l0), .second, .val (.long l1), .second, .val (.long l2), .second, .val (.long u0), .second, .val (.long u1), .second, .val (.int sel), .val (.int mm), .val (.int (0 : Int32)), .val (.int (1 : Int32)), .val (.int (1 : Int32)), .val (.int (1 : Int32)), .val (.long u0), .second, .val (.long u1), .second, .val (.long v2), .second, .val (.long v3), .second, .val (.int (3 : Int32)), .val (.ref ad532), .val (.ref ad536), .val (.int (3 : Int32)), .val (.long l3), .second, .val (.ref ad567), .val (.ref ob), .val (.long l0), .second, .val (.long e1q), .second, .val (.long e2q), .second, .val (.long e3q), .second] := ⟨_, rfl⟩
          refine own_up (S' := T590.setTop (mkF m 342 La600 [])) (fun t stp => XT.lstore X590.here hx rfl (hb hby at_340) rfl (l' := La600) (by rw [hLa598, hLa600]; rfl) stp) ?_
          refine own_up (S' := T590.setTop (mkF m 344 La600 [(.ref ad567)])) (fun t stp => XS.aload X590.here hx rfl (hb hby at_342) (by rw [hLa600]; rfl) rfl stp) ?_
          refine own_len X590 hx hZ rfl Tk590 (4 : Int32) (hb hby at_344) (rfl) rfl rfl (g' := (mkF m 345 La600 [(.int (4 : Int32))])) rfl ?_
          refine own_up (S' := T590.setTop (mkF m 346 La600 [(.int (4 : Int32)), (.int (4 : Int32))])) (fun t stp => XT.iconstV X590.here hx rfl (4 : Int32) (hb hby at_345) rfl stp) ?_
          have hc346_601 : (4 : Int32) = (4 : Int32) := rfl
          refine own_up (S' := T590.setTop (mkF m 349 La600 [])) (fun t stp => XS.icmpNo X590.here hx rfl (hb hby at_346) rfl (XT.ii_ne_f hc346_601) stp) ?_
          refine own_up (S' := T590.setTop (mkF m 351 La600 [(.ref ad567)])) (fun t stp => XS.aload X590.here hx rfl (hb hby at_349) (by rw [hLa600]; rfl) rfl stp) ?_
          refine own_up (S' := T590.setTop (mkF m 352 La600 [(.int (0 : Int32)), (.ref ad567)])) (fun t stp => XT.iconstV X590.here hx rfl (0 : Int32) (hb hby at_351) rfl stp) ?_
          refine own_ldj X590 hx hZ rfl Tk590 (v := (.long l0)) 0 (hb hby at_352) (rfl) (rfl) rfl rfl (g' := (mkF m 353 La600 [(.long l0)])) rfl ?_
          refine own_up (S' := T590.setTop (mkF m 355 La600 [(.long l0), (.long l0)])) (fun t stp => XT.lload X590.here hx rfl (hb hby at_353) (by rw [hLa600]; rfl) stp) ?_
          refine own_up (S' := T590.setTop (mkF m 356 La600 [(.int (XT.cmpL l0 l0))])) (fun t stp => XT.lcmp X590.here hx rfl (hb hby at_355) rfl stp) ?_
          have hc356_602 : l0 = l0 := rfl
          have ihc356_602 : l0.toInt = l0.toInt := own_leq hc356_602
          refine own_up (S' := T590.setTop (mkF m 359 La600 [])) (fun t stp => XS.ifNo X590.here hx rfl (hb hby at_356) rfl (XT.ll_ne_f hc356_602) stp) ?_
          refine own_up (S' := T590.setTop (mkF m 361 La600 [(.ref ad567)])) (fun t stp => XS.aload X590.here hx rfl (hb hby at_359) (by rw [hLa600]; rfl) rfl stp) ?_
          refine own_up (S' := T590.setTop (mkF m 362 La600 [(.int (1 : Int32)), (.ref ad567)])) (fun t stp => XT.iconstV X590.here hx rfl (1 : Int32) (hb hby at_361) rfl stp) ?_
          refine own_ldj X590 hx hZ rfl Tk590 (v := (.long (l1 - u1))) 1 (hb hby at_362) (rfl) (rfl) rfl rfl (g' := (mkF m 363 La600 [(.long (l1 - u1))])) rfl ?_
          refine own_up (S' := T590.setTop (mkF m 365 La600 [(.long e1q), (.long (l1 - u1))])) (fun t stp => XT.lload X590.here hx rfl (hb hby at_363) (by rw [hLa600]; rfl) stp) ?_
          refine own_up (S' := T590.setTop (mkF m 366 La600 [(.int (XT.cmpL (l1 - u1) e1q))])) (fun t stp => XT.lcmp X590.here hx rfl (hb hby at_365) rfl stp) ?_
          have hc366_603 : (l1 - u1) = e1q := h_e1q.symm
          have ihc366_603 : (l1 - u1).toInt = e1q.toInt := own_leq hc366_603
          refine own_up (S' := T590.setTop (mkF m 369 La600 [])) (fun t stp => XS.ifNo X590.here hx rfl (hb hby at_366) rfl (XT.ll_ne_f hc366_603) stp) ?_
          refine own_up (S' := T590.setTop (mkF m 371 La600 [(.ref ad567)])) (fun t stp => XS.aload X590.here hx rfl (hb hby at_369) (by rw [hLa600]; rfl) rfl stp) ?_
          refine own_up (S' := T590.setTop (mkF m 372 La600 [(.int (2 : Int32)), (.ref ad567)])) (fun t stp => XT.iconstV X590.here hx rfl (2 : Int32) (hb hby at_371) rfl stp) ?_
          refine own_ldj X590 hx hZ rfl Tk590 (v := (.long (l2 - v2))) 2 (hb hby at_372) (rfl) (rfl) rfl rfl (g' := (mkF m 373 La600 [(.long (l2 - v2))])) rfl ?_
          refine own_up (S' := T590.setTop (mkF m 375 La600 [(.long e2q), (.long (l2 - v2))])) (fun t stp => XT.lload X590.here hx rfl (hb hby at_373) (by rw [hLa600]; rfl) stp) ?_
          refine own_up (S' := T590.setTop (mkF m 376 La600 [(.int (XT.cmpL (l2 - v2) e2q))])) (fun t stp => XT.lcmp X590.here hx rfl (hb hby at_375) rfl stp) ?_
          have hc376_604 : (l2 - v2) = e2q := h_e2q.symm
          have ihc376_604 : (l2 - v2).toInt = e2q.toInt := own_leq hc376_604
          refine own_up (S' := T590.setTop (mkF m 379 La600 [])) (fun t stp => XS.ifNo X590.here hx rfl (hb hby at_376) rfl (XT.ll_ne_f hc376_604) stp) ?_
          refine own_up (S' := T590.setTop (mkF m 381 La600 [(.ref ad567)])) (fun t stp => XS.aload X590.here hx rfl (hb hby at_379) (by rw [hLa600]; rfl) rfl stp) ?_
          refine own_up (S' := T590.setTop (mkF m 382 La600 [(.int (3 : Int32)), (.ref ad567)])) (fun t stp => XT.iconstV X590.here hx rfl (3 : Int32) (hb hby at_381) rfl stp) ?_
          refine own_ldj X590 hx hZ rfl Tk590 (v := (.long (l3 - v3))) 3 (hb hby at_382) (rfl) (rfl) rfl rfl (g' := (mkF m 383 La600 [(.long (l3 - v3))])) rfl ?_
          refine own_up (S' := T590.setTop (mkF m 385 La600 [(.long e3q), (.long (l3 - v3))])) (fun t stp => XT.lload X590.here hx rfl (hb hby at_383) (by rw [hLa600]; rfl) stp) ?_
          refine own_up (S' := T590.setTop (mkF m 386 La600 [(.int (XT.cmpL (l3 - v3) e3q))])) (fun t stp => XT.lcmp X590.here hx rfl (hb hby at_385) rfl stp) ?_
          have hc386_605 : (l3 - v3) = e3q := h_e3q.symm
          have ihc386_605 : (l3 - v3).toInt = e3q.toInt := own_leq hc386_605
          refine own_up (S' := T590.setTop (mkF m 389 La600 [])) (fun t stp => XS.ifNo X590.here hx rfl (hb hby at_386) rfl (XT.ll_ne_f hc386_605) stp) ?_
          refine own_up (S' := T590.setTop (mkF m 390 La600 [(.int (1 : Int32))])) (fun t stp => XT.iconstV X590.here hx rfl (1 : Int32) (hb hby at_389) rfl stp) ?_
          refine own_up (S' := T590.setTop (mkF m 394 La600 [(.int (1 : Int32))])) (fun t stp => XS.goto X590.here hx rfl (pc0 := 390) (pc' := 394) rfl (hb hby at_390) (by decide) (by decide) stp) ?_
          refine own_retN X590 hx hlk (t := .boolean) hret (by simp) (z' := (1 : Int32)) rfl (hb hby at_394) (by decide) (by decide) ?_
          show own_Q0 Z l0 l1 l2 u0 u1 sel h0 n0 _ T590.heap _
          exact ⟨rfl, N590⟩
  · have ihc11_3 : (mm &&& (1 : Int32)).toInt ≠ 0 := own_ine hc11_3
    refine own_up (S' := T0.setTop (mkF m 14 La2 [])) (fun t stp => XS.ifNo X0.here hx rfl (hb hby at_11) rfl (XT.i0_eq_f hc11_3) stp) ?_
    refine own_up (S' := T0.setTop (mkF m 15 La2 [(.int (1 : Int32))])) (fun t stp => XT.iconstV X0.here hx rfl (1 : Int32) (hb hby at_14) rfl stp) ?_
    refine own_up (S' := T0.setTop (mkF m 19 La2 [(.int (1 : Int32))])) (fun t stp => XS.goto X0.here hx rfl (pc0 := 15) (pc' := 19) rfl (hb hby at_15) (by decide) (by decide) stp) ?_
    obtain ⟨La606, hLa606⟩ : ∃ L : Array Slot, L = #[.val (.long l0), .second, .val (.long l1), .second, .val (.long l2), .second, .val (.long u0), .second, .val (.long u1), .second, .val (.int sel), .val (.int mm), .val (.int (1 : Int32)), .unset, .unset, .unset, .unset, .unset, .unset, .unset, .unset, .unset, .unset, .unset, .unset, .unset, .unset, .unset, .unset, .unset, .unset, .unset, .unset, .unset, .unset, .unset, .unset, .unset, .unset, .unset] := ⟨_, rfl⟩
    refine own_up (S' := T0.setTop (mkF m 21 La606 [])) (fun t stp => XS.istore X0.here hx rfl (hb hby at_19) rfl (l' := La606) (by rw [hLa2, hLa606]; rfl) stp) ?_
    refine own_up (S' := T0.setTop (mkF m 23 La606 [(.int mm)])) (fun t stp => XS.iload X0.here hx rfl (hb hby at_21) (by rw [hLa606]; rfl) stp) ?_
    refine own_up (S' := T0.setTop (mkF m 24 La606 [(.int (2 : Int32)), (.int mm)])) (fun t stp => XT.iconstV X0.here hx rfl (2 : Int32) (hb hby at_23) rfl stp) ?_
    refine own_up (S' := T0.setTop (mkF m 25 La606 [(.int (mm &&& (2 : Int32)))])) (fun t stp => XS.iand X0.here hx rfl (hb hby at_24) rfl stp) ?_
    by_cases hc25_607 : (mm &&& (2 : Int32)) = 0
    · have ihc25_607 : (mm &&& (2 : Int32)).toInt = 0 := own_ieq hc25_607
      refine own_up (S' := T0.setTop (mkF m 32 La606 [])) (fun t stp => XS.ifYes X0.here hx rfl (pc0 := 25) (pc' := 32) rfl (hb hby at_25) rfl (XT.i0_eq_t hc25_607) (by decide) (by decide) stp) ?_
      refine own_up (S' := T0.setTop (mkF m 33 La606 [(.int (0 : Int32))])) (fun t stp => XT.iconstV X0.here hx rfl (0 : Int32) (hb hby at_32) rfl stp) ?_
      obtain ⟨La608, hLa608⟩ : ∃ L : Array Slot, L = #[.val (.long l0), .second, .val (.long l1), .second, .val (.long l2), .second, .val (.long u0), .second, .val (.long u1), .second, .val (.int sel), .val (.int mm), .val (.int (1 : Int32)), .val (.int (0 : Int32)), .unset, .unset, .unset, .unset, .unset, .unset, .unset, .unset, .unset, .unset, .unset, .unset, .unset, .unset, .unset, .unset, .unset, .unset, .unset, .unset, .unset, .unset, .unset, .unset, .unset, .unset] := ⟨_, rfl⟩
      refine own_up (S' := T0.setTop (mkF m 35 La608 [])) (fun t stp => XS.istore X0.here hx rfl (hb hby at_33) rfl (l' := La608) (by rw [hLa606, hLa608]; rfl) stp) ?_
      refine own_up (S' := T0.setTop (mkF m 37 La608 [(.int mm)])) (fun t stp => XS.iload X0.here hx rfl (hb hby at_35) (by rw [hLa608]; rfl) stp) ?_
      refine own_up (S' := T0.setTop (mkF m 38 La608 [(.int (4 : Int32)), (.int mm)])) (fun t stp => XT.iconstV X0.here hx rfl (4 : Int32) (hb hby at_37) rfl stp) ?_
      refine own_up (S' := T0.setTop (mkF m 39 La608 [(.int (mm &&& (4 : Int32)))])) (fun t stp => XS.iand X0.here hx rfl (hb hby at_38) rfl stp) ?_
      by_cases hc39_609 : (mm &&& (4 : Int32)) = 0
      · have ihc39_609 : (mm &&& (4 : Int32)).toInt = 0 := own_ieq hc39_609
        refine own_up (S' := T0.setTop (mkF m 46 La608 [])) (fun t stp => XS.ifYes X0.here hx rfl (pc0 := 39) (pc' := 46) rfl (hb hby at_39) rfl (XT.i0_eq_t hc39_609) (by decide) (by decide) stp) ?_
        refine own_up (S' := T0.setTop (mkF m 47 La608 [(.int (0 : Int32))])) (fun t stp => XT.iconstV X0.here hx rfl (0 : Int32) (hb hby at_46) rfl stp) ?_
        obtain ⟨La610, hLa610⟩ : ∃ L : Array Slot, L = #[.val (.long l0), .second, .val (.long l1), .second, .val (.long l2), .second, .val (.long u0), .second, .val (.long u1), .second, .val (.int sel), .val (.int mm), .val (.int (1 : Int32)), .val (.int (0 : Int32)), .val (.int (0 : Int32)), .unset, .unset, .unset, .unset, .unset, .unset, .unset, .unset, .unset, .unset, .unset, .unset, .unset, .unset, .unset, .unset, .unset, .unset, .unset, .unset, .unset, .unset, .unset, .unset, .unset] := ⟨_, rfl⟩
        refine own_up (S' := T0.setTop (mkF m 49 La610 [])) (fun t stp => XS.istore X0.here hx rfl (hb hby at_47) rfl (l' := La610) (by rw [hLa608, hLa610]; rfl) stp) ?_
        refine own_up (S' := T0.setTop (mkF m 51 La610 [(.int mm)])) (fun t stp => XS.iload X0.here hx rfl (hb hby at_49) (by rw [hLa610]; rfl) stp) ?_
        refine own_up (S' := T0.setTop (mkF m 53 La610 [(.int (8 : Int32)), (.int mm)])) (fun t stp => XT.bipushV X0.here hx rfl (8 : Int32) (hb hby at_51) rfl stp) ?_
        refine own_up (S' := T0.setTop (mkF m 54 La610 [(.int (mm &&& (8 : Int32)))])) (fun t stp => XS.iand X0.here hx rfl (hb hby at_53) rfl stp) ?_
        by_cases hc54_611 : (mm &&& (8 : Int32)) = 0
        · have ihc54_611 : (mm &&& (8 : Int32)).toInt = 0 := own_ieq hc54_611
          refine own_up (S' := T0.setTop (mkF m 61 La610 [])) (fun t stp => XS.ifYes X0.here hx rfl (pc0 := 54) (pc' := 61) rfl (hb hby at_54) rfl (XT.i0_eq_t hc54_611) (by decide) (by decide) stp) ?_
          refine own_up (S' := T0.setTop (mkF m 62 La610 [(.int (0 : Int32))])) (fun t stp => XT.iconstV X0.here hx rfl (0 : Int32) (hb hby at_61) rfl stp) ?_
          obtain ⟨La612, hLa612⟩ : ∃ L : Array Slot, L = #[.val (.long l0), .second, .val (.long l1), .second, .val (.long l2), .second, .val (.long u0), .second, .val (.long u1), .second, .val (.int sel), .val (.int mm), .val (.int (1 : Int32)), .val (.int (0 : Int32)), .val (.int (0 : Int32)), .val (.int (0 : Int32)), .unset, .unset, .unset, .unset, .unset, .unset, .unset, .unset, .unset, .unset, .unset, .unset, .unset, .unset, .unset, .unset, .unset, .unset, .unset, .unset, .unset, .unset, .unset, .unset] := ⟨_, rfl⟩
          refine own_up (S' := T0.setTop (mkF m 64 La612 [])) (fun t stp => XS.istore X0.here hx rfl (hb hby at_62) rfl (l' := La612) (by rw [hLa610, hLa612]; rfl) stp) ?_
          refine own_up (S' := T0.setTop (mkF m 66 La612 [(.long u0)])) (fun t stp => XT.lload X0.here hx rfl (hb hby at_64) (by rw [hLa612]; rfl) stp) ?_
          obtain ⟨La613, hLa613⟩ : ∃ L : Array Slot, L = #[.val (.long l0), .second, .val (.long l1), .second, .val (.long l2), .second, .val (.long u0), .second, .val (.long u1), .second, .val (.int sel), .val (.int mm), .val (.int (1 : Int32)), .val (.int (0 : Int32)), .val (.int (0 : Int32)), .val (.int (0 : Int32)), .val (.long u0), .second, .unset, .unset, .unset, .unset, .unset, .unset, .unset, .unset, .unset, .unset, .unset, .unset, .unset, .unset, .unset, .unset, .unset, .unset, .unset, .unset, .unset, .unset] := ⟨_, rfl⟩
          refine own_up (S' := T0.setTop (mkF m 68 La613 [])) (fun t stp => XT.lstore X0.here hx rfl (hb hby at_66) rfl (l' := La613) (by rw [hLa612, hLa613]; rfl) stp) ?_
          refine own_up (S' := T0.setTop (mkF m 70 La613 [(.long u1)])) (fun t stp => XT.lload X0.here hx rfl (hb hby at_68) (by rw [hLa613]; rfl) stp) ?_
          obtain ⟨La614, hLa614⟩ : ∃ L : Array Slot, L = #[.val (.long l0), .second, .val (.long l1), .second, .val (.long l2), .second, .val (.long u0), .second, .val (.long u1), .second, .val (.int sel), .val (.int mm), .val (.int (1 : Int32)), .val (.int (0 : Int32)), .val (.int (0 : Int32)), .val (.int (0 : Int32)), .val (.long u0), .second, .val (.long u1), .second, .unset, .unset, .unset, .unset, .unset, .unset, .unset, .unset, .unset, .unset, .unset, .unset, .unset, .unset, .unset, .unset, .unset, .unset, .unset, .unset] := ⟨_, rfl⟩
          refine own_up (S' := T0.setTop (mkF m 72 La614 [])) (fun t stp => XT.lstore X0.here hx rfl (hb hby at_70) rfl (l' := La614) (by rw [hLa613, hLa614]; rfl) stp) ?_
          refine own_up (S' := T0.setTop (mkF m 74 La614 [(.long u0)])) (fun t stp => XT.lload X0.here hx rfl (hb hby at_72) (by rw [hLa614]; rfl) stp) ?_
          refine own_up (S' := T0.setTop (mkF m 76 La614 [(.long u1), (.long u0)])) (fun t stp => XT.lload X0.here hx rfl (hb hby at_74) (by rw [hLa614]; rfl) stp) ?_
          refine own_up (S' := T0.setTop (mkF m 77 La614 [(.long (u0 - u1))])) (fun t stp => XT.lsub X0.here hx rfl (hb hby at_76) rfl stp) ?_
          obtain ⟨v2, h_v2⟩ : ∃ z : Int64, z = (u0 - u1) := ⟨_, rfl⟩
          rw [← h_v2]
          obtain ⟨La615, hLa615⟩ : ∃ L : Array Slot, L = #[.val (.long l0), .second, .val (.long l1), .second, .val (.long l2), .second, .val (.long u0), .second, .val (.long u1), .second, .val (.int sel), .val (.int mm), .val (.int (1 : Int32)), .val (.int (0 : Int32)), .val (.int (0 : Int32)), .val (.int (0 : Int32)), .val (.long u0), .second, .val (.long u1), .second, .val (.long v2), .second, .unset, .unset, .unset, .unset, .unset, .unset, .unset, .unset, .unset, .unset, .unset, .unset, .unset, .unset, .unset, .unset, .unset, .unset] := ⟨_, rfl⟩
          refine own_up (S' := T0.setTop (mkF m 79 La615 [])) (fun t stp => XT.lstore X0.here hx rfl (hb hby at_77) rfl (l' := La615) (by rw [hLa614, hLa615]; rfl) stp) ?_
          refine own_up (S' := T0.setTop (mkF m 81 La615 [(.long u1)])) (fun t stp => XT.lload X0.here hx rfl (hb hby at_79) (by rw [hLa615]; rfl) stp) ?_
          refine own_up (S' := T0.setTop (mkF m 83 La615 [(.long l2), (.long u1)])) (fun t stp => XT.lload X0.here hx rfl (hb hby at_81) (by rw [hLa615]; rfl) stp) ?_
          refine own_up (S' := T0.setTop (mkF m 84 La615 [(.long (u1 ^^^ l2))])) (fun t stp => XT.lxor X0.here hx rfl (hb hby at_83) rfl stp) ?_
          obtain ⟨v3, h_v3⟩ : ∃ z : Int64, z = (u1 ^^^ l2) := ⟨_, rfl⟩
          rw [← h_v3]
          obtain ⟨La616, hLa616⟩ : ∃ L : Array Slot, L = #[.val (.long l0), .second, .val (.long l1), .second, .val (.long l2), .second, .val (.long u0), .second, .val (.long u1), .second, .val (.int sel), .val (.int mm), .val (.int (1 : Int32)), .val (.int (0 : Int32)), .val (.int (0 : Int32)), .val (.int (0 : Int32)), .val (.long u0), .second, .val (.long u1), .second, .val (.long v2), .second, .val (.long v3), .second, .unset, .unset, .unset, .unset, .unset, .unset, .unset, .unset, .unset, .unset, .unset, .unset, .unset, .unset, .unset, .unset] := ⟨_, rfl⟩
          refine own_up (S' := T0.setTop (mkF m 86 La616 [])) (fun t stp => XT.lstore X0.here hx rfl (hb hby at_84) rfl (l' := La616) (by rw [hLa615, hLa616]; rfl) stp) ?_
          refine own_up (S' := T0.setTop (mkF m 88 La616 [(.int (1 : Int32))])) (fun t stp => XS.iload X0.here hx rfl (hb hby at_86) (by rw [hLa616]; rfl) stp) ?_
          have hc88_617 : ¬ ((1 : Int32) = 0) := by decide
          refine own_up (S' := T0.setTop (mkF m 91 La616 [])) (fun t stp => XS.ifNo X0.here hx rfl (hb hby at_88) rfl (XT.i0_eq_f hc88_617) stp) ?_
          refine own_up (S' := T0.setTop (mkF m 92 La616 [(.int (1 : Int32))])) (fun t stp => XT.iconstV X0.here hx rfl (1 : Int32) (hb hby at_91) rfl stp) ?_
          refine own_up (S' := T0.setTop (mkF m 96 La616 [(.int (1 : Int32))])) (fun t stp => XS.goto X0.here hx rfl (pc0 := 92) (pc' := 96) rfl (hb hby at_92) (by decide) (by decide) stp) ?_
          refine own_up (S' := T0.setTop (mkF m 98 La616 [(.int (0 : Int32)), (.int (1 : Int32))])) (fun t stp => XS.iload X0.here hx rfl (hb hby at_96) (by rw [hLa616]; rfl) stp) ?_
          have hc98_618 : (0 : Int32) = 0 := by decide
          refine own_up (S' := T0.setTop (mkF m 105 La616 [(.int (1 : Int32))])) (fun t stp => XS.ifYes X0.here hx rfl (pc0 := 98) (pc' := 105) rfl (hb hby at_98) rfl (XT.i0_eq_t hc98_618) (by decide) (by decide) stp) ?_
          refine own_up (S' := T0.setTop (mkF m 106 La616 [(.int (0 : Int32)), (.int (1 : Int32))])) (fun t stp => XT.iconstV X0.here hx rfl (0 : Int32) (hb hby at_105) rfl stp) ?_
          refine own_up (S' := T0.setTop (mkF m 107 La616 [(.int ((1 : Int32) + (0 : Int32)))])) (fun t stp => XS.iadd X0.here hx rfl (hb hby at_106) rfl stp) ?_
          refine own_up (S' := T0.setTop (mkF m 109 La616 [(.int (0 : Int32)), (.int ((1 : Int32) + (0 : Int32)))])) (fun t stp => XS.iload X0.here hx rfl (hb hby at_107) (by rw [hLa616]; rfl) stp) ?_
          have hc109_619 : (0 : Int32) = 0 := hc98_618
          refine own_up (S' := T0.setTop (mkF m 116 La616 [(.int ((1 : Int32) + (0 : Int32)))])) (fun t stp => XS.ifYes X0.here hx rfl (pc0 := 109) (pc' := 116) rfl (hb hby at_109) rfl (XT.i0_eq_t hc109_619) (by decide) (by decide) stp) ?_
          refine own_up (S' := T0.setTop (mkF m 117 La616 [(.int (0 : Int32)), (.int ((1 : Int32) + (0 : Int32)))])) (fun t stp => XT.iconstV X0.here hx rfl (0 : Int32) (hb hby at_116) rfl stp) ?_
          refine own_up (S' := T0.setTop (mkF m 118 La616 [(.int (((1 : Int32) + (0 : Int32)) + (0 : Int32)))])) (fun t stp => XS.iadd X0.here hx rfl (hb hby at_117) rfl stp) ?_
          refine own_up (S' := T0.setTop (mkF m 120 La616 [(.int (0 : Int32)), (.int (((1 : Int32) + (0 : Int32)) + (0 : Int32)))])) (fun t stp => XS.iload X0.here hx rfl (hb hby at_118) (by rw [hLa616]; rfl) stp) ?_
          have hc120_620 : (0 : Int32) = 0 := hc98_618
          refine own_up (S' := T0.setTop (mkF m 127 La616 [(.int (((1 : Int32) + (0 : Int32)) + (0 : Int32)))])) (fun t stp => XS.ifYes X0.here hx rfl (pc0 := 120) (pc' := 127) rfl (hb hby at_120) rfl (XT.i0_eq_t hc120_620) (by decide) (by decide) stp) ?_
          refine own_up (S' := T0.setTop (mkF m 128 La616 [(.int (0 : Int32)), (.int (((1 : Int32) + (0 : Int32)) + (0 : Int32)))])) (fun t stp => XT.iconstV X0.here hx rfl (0 : Int32) (hb hby at_127) rfl stp) ?_
          refine own_up (S' := T0.setTop (mkF m 129 La616 [(.int ((((1 : Int32) + (0 : Int32)) + (0 : Int32)) + (0 : Int32)))])) (fun t stp => XS.iadd X0.here hx rfl (hb hby at_128) rfl stp) ?_
          show own_Ends p e below s (own_Q0 Z l0 l1 l2 u0 u1 sel h0 n0) room_1.cells room_1.slots (T0.setTop (mkF m 129 La616 [(.int (1 : Int32))]))
          obtain ⟨La621, hLa621⟩ : ∃ L : Array Slot, L = #[.val (.long l0), .second, .val (.long l1), .second, .val (.long l2), .second, .val (.long u0), .second, .val (.long u1), .second, .val (.int sel), .val (.int mm), .val (.int (1 : Int32)), .val (.int (0 : Int32)), .val (.int (0 : Int32)), .val (.int (0 : Int32)), .val (.long u0), .second, .val (.long u1), .second, .val (.long v2), .second, .val (.long v3), .second, .val (.int (1 : Int32)), .unset, .unset, .unset, .unset, .unset, .unset, .unset, .unset, .unset, .unset, .unset, .unset, .unset, .unset, .unset] := ⟨_, rfl⟩
          refine own_up (S' := T0.setTop (mkF m 131 La621 [])) (fun t stp => XS.istore X0.here hx rfl (hb hby at_129) rfl (l' := La621) (by rw [hLa616, hLa621]; rfl) stp) ?_
          refine own_up (S' := T0.setTop (mkF m 133 La621 [(.int (1 : Int32))])) (fun t stp => XS.iload X0.here hx rfl (hb hby at_131) (by rw [hLa621]; rfl) stp) ?_
          refine own_newa X0 hx hZ (ty := .int) rfl (hw _ (List.mem_of_getElem? (i := 0) rfl)) e0 1 (hb hby at_133) (rfl) 1 (by decide) (by decide) (by decide) (by decide) rfl rfl ?_
          intro T622 h622 ad622 hb622 X622 e622 E622 A622
          have g_ad622 : n0 ≤ ad622 := Nat.le_trans Z0 (Nat.le_of_eq hb622.symm)
          have Zn623 := Nat.le_trans Z0 E622.1
          have Al622 : own_Al Z h622 ad622 .int [(.int (0 : Int32))] := A622
          show own_Ends p e below s (own_Q0 Z l0 l1 l2 u0 u1 sel h0 n0) room_1.cells room_1.slots (T622.setTop (mkF m 135 La621 [(.ref ad622)]))
          obtain ⟨La625, hLa625⟩ : ∃ L : Array Slot, L = #[.val (.long l0), .second, .val (.long l1), .second, .val (.long l2), .second, .val (.long u0), .second, .val (.long u1), .second, .val (.int sel), .val (.int mm), .val (.int (1 : Int32)), .val (.int (0 : Int32)), .val (.int (0 : Int32)), .val (.int (0 : Int32)), .val (.long u0), .second, .val (.long u1), .second, .val (.long v2), .second, .val (.long v3), .second, .val (.int (1 : Int32)), .val (.ref ad622), .unset, .unset, .unset, .unset, .unset, .unset, .unset, .unset, .unset, .unset, .unset, .unset, .unset, .unset] := ⟨_, rfl⟩
          refine own_up (S' := T622.setTop (mkF m 137 La625 [])) (fun t stp => XS.astore X622.here hx rfl (hb hby at_135) rfl rfl (l' := La625) (by rw [hLa621, hLa625]; rfl) stp) ?_
          refine own_up (S' := T622.setTop (mkF m 139 La625 [(.int (1 : Int32))])) (fun t stp => XS.iload X622.here hx rfl (hb hby at_137) (by rw [hLa625]; rfl) stp) ?_
          refine own_newa X622 hx hZ (ty := .long) rfl (hw _ (List.mem_of_getElem? (i := 1) rfl)) e622 1 (hb hby at_139) (rfl) 1 (by decide) (by decide) (by decide) (by decide) rfl rfl ?_
          intro T626 h626 ad626 hb626 X626 e626 E626 A626
          have ne626_ad622_ad626 : ad622 ≠ ad626 := Nat.ne_of_lt (Nat.lt_of_lt_of_eq (own_Al_lt Al622) hb626.symm)
          have g_ad626 : n0 ≤ ad626 := Nat.le_trans Zn623 (Nat.le_of_eq hb626.symm)
          have Zn627 := Nat.le_trans Zn623 E626.1
          have Al622_628 := own_Al_ext E626 Al622
          have Al626 : own_Al Z h626 ad626 .long [(.long (0 : Int64))] := A626
          show own_Ends p e below s (own_Q0 Z l0 l1 l2 u0 u1 sel h0 n0) room_1.cells room_1.slots (T626.setTop (mkF m 141 La625 [(.ref ad626)]))
          obtain ⟨La629, hLa629⟩ : ∃ L : Array Slot, L = #[.val (.long l0), .second, .val (.long l1), .second, .val (.long l2), .second, .val (.long u0), .second, .val (.long u1), .second, .val (.int sel), .val (.int mm), .val (.int (1 : Int32)), .val (.int (0 : Int32)), .val (.int (0 : Int32)), .val (.int (0 : Int32)), .val (.long u0), .second, .val (.long u1), .second, .val (.long v2), .second, .val (.long v3), .second, .val (.int (1 : Int32)), .val (.ref ad622), .val (.ref ad626), .unset, .unset, .unset, .unset, .unset, .unset, .unset, .unset, .unset, .unset, .unset, .unset, .unset] := ⟨_, rfl⟩
          refine own_up (S' := T626.setTop (mkF m 143 La629 [])) (fun t stp => XS.astore X626.here hx rfl (hb hby at_141) rfl rfl (l' := La629) (by rw [hLa625, hLa629]; rfl) stp) ?_
          refine own_up (S' := T626.setTop (mkF m 144 La629 [(.int (0 : Int32))])) (fun t stp => XT.iconstV X626.here hx rfl (0 : Int32) (hb hby at_143) rfl stp) ?_
          obtain ⟨La630, hLa630⟩ : ∃ L : Array Slot, L = #[.val (.long l0), .second, .val (.long l1), .second, .val (.long l2), .second, .val (.long u0), .second, .val (.long u1), .second, .val (.int sel), .val (.int mm), .val (.int (1 : Int32)), .val (.int (0 : Int32)), .val (.int (0 : Int32)), .val (.int (0 : Int32)), .val (.long u0), .second, .val (.long u1), .second, .val (.long v2), .second, .val (.long v3), .second, .val (.int (1 : Int32)), .val (.ref ad622), .val (.ref ad626), .val (.int (0 : Int32)), .unset, .unset, .unset, .unset, .unset, .unset, .unset, .unset, .unset, .unset, .unset, .unset] := ⟨_, rfl⟩
          refine own_up (S' := T626.setTop (mkF m 146 La630 [])) (fun t stp => XS.istore X626.here hx rfl (hb hby at_144) rfl (l' := La630) (by rw [hLa629, hLa630]; rfl) stp) ?_
          refine own_up (S' := T626.setTop (mkF m 148 La630 [(.int (1 : Int32))])) (fun t stp => XS.iload X626.here hx rfl (hb hby at_146) (by rw [hLa630]; rfl) stp) ?_
          have hc148_631 : ¬ ((1 : Int32) = 0) := hc88_617
          refine own_up (S' := T626.setTop (mkF m 151 La630 [])) (fun t stp => XS.ifNo X626.here hx rfl (hb hby at_148) rfl (XT.i0_eq_f hc148_631) stp) ?_
          refine own_up (S' := T626.setTop (mkF m 153 La630 [(.ref ad622)])) (fun t stp => XS.aload X626.here hx rfl (hb hby at_151) (by rw [hLa630]; rfl) rfl stp) ?_
          refine own_up (S' := T626.setTop (mkF m 155 La630 [(.int (0 : Int32)), (.ref ad622)])) (fun t stp => XS.iload X626.here hx rfl (hb hby at_153) (by rw [hLa630]; rfl) stp) ?_
          refine own_up (S' := T626.setTop (mkF m 156 La630 [(.int (0 : Int32)), (.int (0 : Int32)), (.ref ad622)])) (fun t stp => XT.iconstV X626.here hx rfl (0 : Int32) (hb hby at_155) rfl stp) ?_
          refine own_sti X626 hx hZ e626 Al622_628 0 (hb hby at_156) (rfl) (Nat.le_of_ble_eq_true rfl) rfl rfl (g' := (mkF m 157 La630 [])) rfl ?_
          intro T632 h632 X632 e632 W632 B632
          have Zn633 := Nat.le_trans Zn627 (Nat.le_of_eq W632.size.symm)
          have Al626_634 := own_Al_oth W632 Al626 (Ne.symm ne626_ad622_ad626)
          have N632 := Fr.snoc X632 N0 g_ad622
          have Al632 : own_Al Z h632 ad622 .int [(.int (0 : Int32))] := B632
          refine own_up (S' := T632.setTop (mkF m 159 La630 [(.ref ad626)])) (fun t stp => XS.aload X632.here hx rfl (hb hby at_157) (by rw [hLa630]; rfl) rfl stp) ?_
          refine own_up (S' := T632.setTop (mkF m 161 La630 [(.int (0 : Int32)), (.ref ad626)])) (fun t stp => XS.iload X632.here hx rfl (hb hby at_159) (by rw [hLa630]; rfl) stp) ?_
          refine own_up (S' := T632.setTop (mkF m 163 La630 [(.long u0), (.int (0 : Int32)), (.ref ad626)])) (fun t stp => XT.lload X632.here hx rfl (hb hby at_161) (by rw [hLa630]; rfl) stp) ?_
          refine own_stj X632 hx hZ e632 Al626_634 0 (hb hby at_163) (rfl) (Nat.le_of_ble_eq_true rfl) rfl rfl (g' := (mkF m 164 La630 [])) rfl ?_
          intro T635 h635 X635 e635 W635 B635
          have Zn636 := Nat.le_trans Zn633 (Nat.le_of_eq W635.size.symm)
          have Al632_637 := own_Al_oth W635 Al632 ne626_ad622_ad626
          have N635 := Fr.snoc X635 N632 g_ad626
          have Al635 : own_Al Z h635 ad626 .long [(.long u0)] := B635
          obtain ⟨La638, hLa638⟩ : ∃ L : Array Slot, L = #[.val (.long l0), .second, .val (.long l1), .second, .val (.long l2), .second, .val (.long u0), .second, .val (.long u1), .second, .val (.int sel), .val (.int mm), .val (.int (1 : Int32)), .val (.int (0 : Int32)), .val (.int (0 : Int32)), .val (.int (0 : Int32)), .val (.long u0), .second, .val (.long u1), .second, .val (.long v2), .second, .val (.long v3), .second, .val (.int (1 : Int32)), .val (.ref ad622), .val (.ref ad626), .val (.int (1 : Int32)), .unset, .unset, .unset, .unset, .unset, .unset, .unset, .unset, .unset, .unset, .unset, .unset] := ⟨_, rfl⟩
          refine own_up (S' := T635.setTop (mkF m 167 La638 [])) (fun t stp => XT.iincV X635.here hx rfl (1 : Int32) (hb hby at_164) rfl (by rw [hLa630]; rfl) (l' := La638) (by rw [hLa630, hLa638]; rfl) stp) ?_
          refine own_up (S' := T635.setTop (mkF m 169 La638 [(.int (0 : Int32))])) (fun t stp => XS.iload X635.here hx rfl (hb hby at_167) (by rw [hLa638]; rfl) stp) ?_
          have hc169_639 : (0 : Int32) = 0 := hc98_618
          refine own_up (S' := T635.setTop (mkF m 188 La638 [])) (fun t stp => XS.ifYes X635.here hx rfl (pc0 := 169) (pc' := 188) rfl (hb hby at_169) rfl (XT.i0_eq_t hc169_639) (by decide) (by decide) stp) ?_
          refine own_up (S' := T635.setTop (mkF m 190 La638 [(.int (0 : Int32))])) (fun t stp => XS.iload X635.here hx rfl (hb hby at_188) (by rw [hLa638]; rfl) stp) ?_
          have hc190_640 : (0 : Int32) = 0 := hc98_618
          refine own_up (S' := T635.setTop (mkF m 209 La638 [])) (fun t stp => XS.ifYes X635.here hx rfl (pc0 := 190) (pc' := 209) rfl (hb hby at_190) rfl (XT.i0_eq_t hc190_640) (by decide) (by decide) stp) ?_
          refine own_up (S' := T635.setTop (mkF m 211 La638 [(.int (0 : Int32))])) (fun t stp => XS.iload X635.here hx rfl (hb hby at_209) (by rw [hLa638]; rfl) stp) ?_
          have hc211_641 : (0 : Int32) = 0 := hc98_618
          refine own_up (S' := T635.setTop (mkF m 230 La638 [])) (fun t stp => XS.ifYes X635.here hx rfl (pc0 := 211) (pc' := 230) rfl (hb hby at_211) rfl (XT.i0_eq_t hc211_641) (by decide) (by decide) stp) ?_
          refine own_up (S' := T635.setTop (mkF m 231 La638 [(.long l0)])) (fun t stp => XT.lloadN X635.here hx rfl (hb hby at_230) (by rw [hLa638]; rfl) stp) ?_
          refine own_up (S' := T635.setTop (mkF m 232 La638 [(.long l1), (.long l0)])) (fun t stp => XT.lloadN X635.here hx rfl (hb hby at_231) (by rw [hLa638]; rfl) stp) ?_
          refine own_up (S' := T635.setTop (mkF m 233 La638 [(.long (l0 ^^^ l1))])) (fun t stp => XT.lxor X635.here hx rfl (hb hby at_232) rfl stp) ?_
          obtain ⟨l3, h_l3⟩ : ∃ z : Int64, z = (l0 ^^^ l1) := ⟨_, rfl⟩
          rw [← h_l3]
          obtain ⟨La642, hLa642⟩ : ∃ L : Array Slot, L = #[.val (.long l0), .second, .val (.long l1), .second, .val (.long l2), .second, .val (.long u0), .second, .val (.long u1), .second, .val (.int sel), .val (.int mm), .val (.int (1 : Int32)), .val (.int (0 : Int32)), .val (.int (0 : Int32)), .val (.int (0 : Int32)), .val (.long u0), .second, .val (.long u1), .second, .val (.long v2), .second, .val (.long v3), .second, .val (.int (1 : Int32)), .val (.ref ad622), .val (.ref ad626), .val (.int (1 : Int32)), .val (.long l3), .second, .unset, .unset, .unset, .unset, .unset, .unset, .unset, .unset, .unset, .unset] := ⟨_, rfl⟩
          refine own_up (S' := T635.setTop (mkF m 235 La642 [])) (fun t stp => XT.lstore X635.here hx rfl (hb hby at_233) rfl (l' := La642) (by rw [hLa638, hLa642]; rfl) stp) ?_
          refine own_up (S' := T635.setTop (mkF m 236 La642 [(.int (4 : Int32))])) (fun t stp => XT.iconstV X635.here hx rfl (4 : Int32) (hb hby at_235) rfl stp) ?_
          refine own_newa X635 hx hZ (ty := .long) rfl (hw _ (List.mem_of_getElem? (i := 1) rfl)) e635 4 (hb hby at_236) (rfl) 4 (by decide) (by decide) (by decide) (by decide) rfl rfl ?_
          intro T643 h643 ad643 hb643 X643 e643 E643 A643
          have ne643_ad622_ad643 : ad622 ≠ ad643 := Nat.ne_of_lt (Nat.lt_of_lt_of_eq (own_Al_lt Al632_637) hb643.symm)
          have ne643_ad626_ad643 : ad626 ≠ ad643 := Nat.ne_of_lt (Nat.lt_of_lt_of_eq (own_Al_lt Al635) hb643.symm)
          have g_ad643 : n0 ≤ ad643 := Nat.le_trans Zn636 (Nat.le_of_eq hb643.symm)
          have Zn644 := Nat.le_trans Zn636 E643.1
          have Al632_645 := own_Al_ext E643 Al632_637
          have Al635_645 := own_Al_ext E643 Al635
          have Al643 : own_Al Z h643 ad643 .long [(.long (0 : Int64)), (.long (0 : Int64)), (.long (0 : Int64)), (.long (0 : Int64))] := A643
          show own_Ends p e below s (own_Q0 Z l0 l1 l2 u0 u1 sel h0 n0) room_1.cells room_1.slots (T643.setTop (mkF m 238 La642 [(.ref ad643)]))
          refine own_up (S' := T643.setTop (mkF m 239 La642 [(.ref ad643), (.ref ad643)])) (fun t stp => XS.dup X643.here hx rfl (hb hby at_238) rfl rfl stp) ?_
          refine own_up (S' := T643.setTop (mkF m 240 La642 [(.int (0 : Int32)), (.ref ad643), (.ref ad643)])) (fun t stp => XT.iconstV X643.here hx rfl (0 : Int32) (hb hby at_239) rfl stp) ?_
          refine own_up (S' := T643.setTop (mkF m 241 La642 [(.long l0), (.int (0 : Int32)), (.ref ad643), (.ref ad643)])) (fun t stp => XT.lloadN X643.here hx rfl (hb hby at_240) (by rw [hLa642]; rfl) stp) ?_
          refine own_stj X643 hx hZ e643 Al643 0 (hb hby at_241) (rfl) (Nat.le_of_ble_eq_true rfl) rfl rfl (g' := (mkF m 242 La642 [(.ref ad643)])) rfl ?_
          intro T646 h646 X646 e646 W646 B646
          have Zn647 := Nat.le_trans Zn644 (Nat.le_of_eq W646.size.symm)
          have Al632_648 := own_Al_oth W646 Al632_645 ne643_ad622_ad643
          have Al635_648 := own_Al_oth W646 Al635_645 ne643_ad626_ad643
          have N646 := Fr.snoc X646 N635 g_ad643
          have Al646 : own_Al Z h646 ad643 .long [(.long l0), (.long (0 : Int64)), (.long (0 : Int64)), (.long (0 : Int64))] := B646
          refine own_up (S' := T646.setTop (mkF m 243 La642 [(.ref ad643), (.ref ad643)])) (fun t stp => XS.dup X646.here hx rfl (hb hby at_242) rfl rfl stp) ?_
          refine own_up (S' := T646.setTop (mkF m 244 La642 [(.int (1 : Int32)), (.ref ad643), (.ref ad643)])) (fun t stp => XT.iconstV X646.here hx rfl (1 : Int32) (hb hby at_243) rfl stp) ?_
          refine own_up (S' := T646.setTop (mkF m 245 La642 [(.long l1), (.int (1 : Int32)), (.ref ad643), (.ref ad643)])) (fun t stp => XT.lloadN X646.here hx rfl (hb hby at_244) (by rw [hLa642]; rfl) stp) ?_
          refine own_stj X646 hx hZ e646 Al646 1 (hb hby at_245) (rfl) (Nat.le_of_ble_eq_true rfl) rfl rfl (g' := (mkF m 246 La642 [(.ref ad643)])) rfl ?_
          intro T649 h649 X649 e649 W649 B649
          have Zn650 := Nat.le_trans Zn647 (Nat.le_of_eq W649.size.symm)
          have Al632_651 := own_Al_oth W649 Al632_648 ne643_ad622_ad643
          have Al635_651 := own_Al_oth W649 Al635_648 ne643_ad626_ad643
          have N649 := Fr.snoc X649 N646 g_ad643
          have Al649 : own_Al Z h649 ad643 .long [(.long l0), (.long l1), (.long (0 : Int64)), (.long (0 : Int64))] := B649
          refine own_up (S' := T649.setTop (mkF m 247 La642 [(.ref ad643), (.ref ad643)])) (fun t stp => XS.dup X649.here hx rfl (hb hby at_246) rfl rfl stp) ?_
          refine own_up (S' := T649.setTop (mkF m 248 La642 [(.int (2 : Int32)), (.ref ad643), (.ref ad643)])) (fun t stp => XT.iconstV X649.here hx rfl (2 : Int32) (hb hby at_247) rfl stp) ?_
          refine own_up (S' := T649.setTop (mkF m 250 La642 [(.long l2), (.int (2 : Int32)), (.ref ad643), (.ref ad643)])) (fun t stp => XT.lload X649.here hx rfl (hb hby at_248) (by rw [hLa642]; rfl) stp) ?_
          refine own_stj X649 hx hZ e649 Al649 2 (hb hby at_250) (rfl) (Nat.le_of_ble_eq_true rfl) rfl rfl (g' := (mkF m 251 La642 [(.ref ad643)])) rfl ?_
          intro T652 h652 X652 e652 W652 B652
          have Zn653 := Nat.le_trans Zn650 (Nat.le_of_eq W652.size.symm)
          have Al632_654 := own_Al_oth W652 Al632_651 ne643_ad622_ad643
          have Al635_654 := own_Al_oth W652 Al635_651 ne643_ad626_ad643
          have N652 := Fr.snoc X652 N649 g_ad643
          have Al652 : own_Al Z h652 ad643 .long [(.long l0), (.long l1), (.long l2), (.long (0 : Int64))] := B652
          refine own_up (S' := T652.setTop (mkF m 252 La642 [(.ref ad643), (.ref ad643)])) (fun t stp => XS.dup X652.here hx rfl (hb hby at_251) rfl rfl stp) ?_
          refine own_up (S' := T652.setTop (mkF m 253 La642 [(.int (3 : Int32)), (.ref ad643), (.ref ad643)])) (fun t stp => XT.iconstV X652.here hx rfl (3 : Int32) (hb hby at_252) rfl stp) ?_
          refine own_up (S' := T652.setTop (mkF m 255 La642 [(.long l3), (.int (3 : Int32)), (.ref ad643), (.ref ad643)])) (fun t stp => XT.lload X652.here hx rfl (hb hby at_253) (by rw [hLa642]; rfl) stp) ?_
          refine own_stj X652 hx hZ e652 Al652 3 (hb hby at_255) (rfl) (Nat.le_of_ble_eq_true rfl) rfl rfl (g' := (mkF m 256 La642 [(.ref ad643)])) rfl ?_
          intro T655 h655 X655 e655 W655 B655
          have Zn656 := Nat.le_trans Zn653 (Nat.le_of_eq W655.size.symm)
          have Al632_657 := own_Al_oth W655 Al632_654 ne643_ad622_ad643
          have Al635_657 := own_Al_oth W655 Al635_654 ne643_ad626_ad643
          have N655 := Fr.snoc X655 N652 g_ad643
          have Al655 : own_Al Z h655 ad643 .long [(.long l0), (.long l1), (.long l2), (.long l3)] := B655
          obtain ⟨La658, hLa658⟩ : ∃ L : Array Slot, L = #[.val (.long l0), .second, .val (.long l1), .second, .val (.long l2), .second, .val (.long u0), .second, .val (.long u1), .second, .val (.int sel), .val (.int mm), .val (.int (1 : Int32)), .val (.int (0 : Int32)), .val (.int (0 : Int32)), .val (.int (0 : Int32)), .val (.long u0), .second, .val (.long u1), .second, .val (.long v2), .second, .val (.long v3), .second, .val (.int (1 : Int32)), .val (.ref ad622), .val (.ref ad626), .val (.int (1 : Int32)), .val (.long l3), .second, .val (.ref ad643), .unset, .unset, .unset, .unset, .unset, .unset, .unset, .unset, .unset] := ⟨_, rfl⟩
          refine own_up (S' := T655.setTop (mkF m 258 La658 [])) (fun t stp => XS.astore X655.here hx rfl (hb hby at_256) rfl rfl (l' := La658) (by rw [hLa642, hLa658]; rfl) stp) ?_
          refine own_new X655 hx hZ hown (hw _ (List.mem_of_getElem? (i := 2) rfl)) (hw _ (List.mem_of_getElem? (i := 3) rfl)) (hw _ (List.mem_of_getElem? (i := 4) rfl)) e655 rfl (hb hby at_258) (by decide) (by decide) ?_
          intro T659 h659 ob hb659 X659 e659 E659 A659 D659
          have ne659_ad622_ob : ad622 ≠ ob := Nat.ne_of_lt (Nat.lt_of_lt_of_eq (own_Al_lt Al632_657) hb659.symm)
          have ne659_ad626_ob : ad626 ≠ ob := Nat.ne_of_lt (Nat.lt_of_lt_of_eq (own_Al_lt Al635_657) hb659.symm)
          have ne659_ad643_ob : ad643 ≠ ob := Nat.ne_of_lt (Nat.lt_of_lt_of_eq (own_Al_lt Al655) hb659.symm)
          have g_ob : n0 ≤ ob := Nat.le_trans Zn656 (Nat.le_of_eq hb659.symm)
          have Zn660 := Nat.le_trans Zn656 E659.1
          have Al632_661 := own_Al_ext E659 Al632_657
          have Al635_661 := own_Al_ext E659 Al635_657
          have Al655_661 := own_Al_ext E659 Al655
          have Fresources_ob : Fld Z h659 ob "com/example/outcry/outcry/combinatorial/Bundle" "resources" "[I" .null := D659 (Or.inr (hw _ (List.mem_of_getElem? (i := 17) rfl))) (ty := (.array .int)) (by decide)
          have Funits_ob : Fld Z h659 ob "com/example/outcry/outcry/combinatorial/Bundle" "units" "[J" .null := D659 (Or.inr (hw _ (List.mem_of_getElem? (i := 19) rfl))) (ty := (.array .long)) (by decide)
          show own_Ends p e below s (own_Q0 Z l0 l1 l2 u0 u1 sel h0 n0) room_1.cells room_1.slots (T659.setTop (mkF m 261 La658 [(.ref ob)]))
          refine own_up (S' := T659.setTop (mkF m 262 La658 [(.ref ob), (.ref ob)])) (fun t stp => XS.dup X659.here hx rfl (hb hby at_261) rfl rfl stp) ?_
          refine own_up (S' := T659.setTop (mkF m 264 La658 [(.ref ad622), (.ref ob), (.ref ob)])) (fun t stp => XS.aload X659.here hx rfl (hb hby at_262) (by rw [hLa658]; rfl) rfl stp) ?_
          refine own_up (S' := T659.setTop (mkF m 266 La658 [(.ref ad626), (.ref ad622), (.ref ob), (.ref ob)])) (fun t stp => XS.aload X659.here hx rfl (hb hby at_264) (by rw [hLa658]; rfl) rfl stp) ?_
          refine own_callI X659 hx hZ rfl hown (hw _ (List.mem_of_getElem? (i := 5) rfl)) (hw _ (List.mem_of_getElem? (i := 6) rfl)) (hw _ (List.mem_of_getElem? (i := 4) rfl)) (hw _ (List.mem_of_getElem? (i := 7) rfl)) (by decide) e659 (rm2 l Z a0 hw [] ob ad622 ad626 h659 n0 Zn660 Fresources_ob Funits_ob A659 g_ob) 1 ob [(.ref ad622), (.ref ad626)] [(.ref ob)] (hb hby at_266) (lenOf own_pd1 rfl) (by decide) (by decide) (by decide) (by decide) rfl (by rw [hml, hLa658]; rfl) rfl (by show 2 * 0 + _ ≤ _; exact Nat.le_of_eq rfl) rfl ?_
          intro T662 L662 r662 X662 q662
          obtain ⟨rfl, M662, K662, G662a_662, G662b_662⟩ := q662
          have N662 := Fr.app N655 M662
          have Zn663 := Nat.le_trans Zn660 K662.1
          have Al632_664 := own_Al_keep K662 Al632_661 (ninS ne659_ad622_ob nin0)
          have Al635_664 := own_Al_keep K662 Al635_661 (ninS ne659_ad626_ob nin0)
          have Al655_664 := own_Al_keep K662 Al655_661 (ninS ne659_ad643_ob nin0)
          have A659_664 := A659.keep K662
          show own_Ends p e below s (own_Q0 Z l0 l1 l2 u0 u1 sel h0 n0) room_1.cells room_1.slots (T662.setTop (mkF m 269 La658 [(.ref ob)]))
          obtain ⟨La665, hLa665⟩ : ∃ L : Array Slot, L = #[.val (.long l0), .second, .val (.long l1), .second, .val (.long l2), .second, .val (.long u0), .second, .val (.long u1), .second, .val (.int sel), .val (.int mm), .val (.int (1 : Int32)), .val (.int (0 : Int32)), .val (.int (0 : Int32)), .val (.int (0 : Int32)), .val (.long u0), .second, .val (.long u1), .second, .val (.long v2), .second, .val (.long v3), .second, .val (.int (1 : Int32)), .val (.ref ad622), .val (.ref ad626), .val (.int (1 : Int32)), .val (.long l3), .second, .val (.ref ad643), .val (.ref ob), .unset, .unset, .unset, .unset, .unset, .unset, .unset, .unset] := ⟨_, rfl⟩
          refine own_up (S' := T662.setTop (mkF m 271 La665 [])) (fun t stp => XS.astore X662.here hx rfl (hb hby at_269) rfl rfl (l' := La665) (by rw [hLa658, hLa665]; rfl) stp) ?_
          refine own_up (S' := T662.setTop (mkF m 273 La665 [(.ref ob)])) (fun t stp => XS.aload X662.here hx rfl (hb hby at_271) (by rw [hLa665]; rfl) rfl stp) ?_
          refine own_up (S' := T662.setTop (mkF m 275 La665 [(.ref ad643), (.ref ob)])) (fun t stp => XS.aload X662.here hx rfl (hb hby at_273) (by rw [hLa665]; rfl) rfl stp) ?_
          refine own_callV X662 hx hZ hown (hw _ (List.mem_of_getElem? (i := 20) rfl)) (hw _ (List.mem_of_getElem? (i := 21) rfl)) (hw _ (List.mem_of_getElem? (i := 23) rfl)) (hw _ (List.mem_of_getElem? (i := 22) rfl)) (hw _ (List.mem_of_getElem? (i := 4) rfl)) (hw _ (List.mem_of_getElem? (i := 24) rfl)) (by decide) rfl (rm11 l Z a0 hw [] ob ad643 ad622 ad626 [(.long l0), (.long l1), (.long l2), (.long l3)] (0 : Int32) u0 (0) l0 T662.heap n0 Zn663 G662a_662 G662b_662 Al632_664 Al635_664 Al655_664 g_ad643 ne643_ad622_ad643 ne643_ad626_ad643 (Ne.symm ne659_ad643_ob) (rfl) (rfl)) 0 A659_664 [(.ref ad643)] [] (hb hby at_275) (lenOf own_pd2 rfl) (by decide) (by decide) (by decide) (by decide) rfl (by rw [hml, hLa665]; rfl) rfl (by show 2 * 0 + _ ≤ _; exact Nat.le_of_eq rfl) rfl ?_
          intro T666 L666 r666 X666 q666
          obtain ⟨rfl, M666, K666, G666a_666⟩ := q666
          have N666 := Fr.app N662 M666
          have Zn667 := Nat.le_trans Zn663 K666.1
          have Al632_668 := own_Al_keep K666 Al632_664 (ninS ne643_ad622_ad643 nin0)
          have Al635_668 := own_Al_keep K666 Al635_664 (ninS ne643_ad626_ad643 nin0)
          have A659_668 := A659_664.keep K666
          have G662a_668 := G662a_662.keep K666 (ninS (Ne.symm ne659_ad643_ob) nin0)
          have G662b_668 := G662b_662.keep K666 (ninS (Ne.symm ne659_ad643_ob) nin0)
          show own_Ends p e below s (own_Q0 Z l0 l1 l2 u0 u1 sel h0 n0) room_1.cells room_1.slots (T666.setTop (mkF m 278 La665 []))
          have Tk666 : own_Al Z T666.heap ad643 .long [(.long (l0 - u0)), (.long l1), (.long l2), (.long l3)] := G666a_666
          refine own_up (S' := T666.setTop (mkF m 280 La665 [(.int (1 : Int32))])) (fun t stp => XS.iload X666.here hx rfl (hb hby at_278) (by rw [hLa665]; rfl) stp) ?_
          have hc280_669 : ¬ ((1 : Int32) = 0) := hc88_617
          refine own_up (S' := T666.setTop (mkF m 283 La665 [])) (fun t stp => XS.ifNo X666.here hx rfl (hb hby at_280) rfl (XT.i0_eq_f hc280_669) stp) ?_
          refine own_up (S' := T666.setTop (mkF m 284 La665 [(.long l0)])) (fun t stp => XT.lloadN X666.here hx rfl (hb hby at_283) (by rw [hLa665]; rfl) stp) ?_
          refine own_up (S' := T666.setTop (mkF m 286 La665 [(.long u0), (.long l0)])) (fun t stp => XT.lload X666.here hx rfl (hb hby at_284) (by rw [hLa665]; rfl) stp) ?_
          refine own_up (S' := T666.setTop (mkF m 287 La665 [(.long (l0 - u0))])) (fun t stp => XT.lsub X666.here hx rfl (hb hby at_286) rfl stp) ?_
          refine own_up (S' := T666.setTop (mkF m 291 La665 [(.long (l0 - u0))])) (fun t stp => XS.goto X666.here hx rfl (pc0 := 287) (pc' := 291) rfl (hb hby at_287) (by decide) (by decide) stp) ?_
          obtain ⟨e0q, h_e0q⟩ : ∃ z : Int64, z = (l0 - u0) := ⟨_, rfl⟩
          rw [← h_e0q]
          obtain ⟨La670, hLa670⟩ : ∃ L : Array Slot, L = #[.val (.long l0), .second, .val (.long l1), .second, .val (.long l2), .second, .val (.long u0), .second, .val (.long u1), .second, .val (.int sel), .val (.int mm), .val (.int (1 : Int32)), .val (.int (0 : Int32)), .val (.int (0 : Int32)), .val (.int (0 : Int32)), .val (.long u0), .second, .val (.long u1), .second, .val (.long v2), .second, .val (.long v3), .second, .val (.int (1 : Int32)), .val (.ref ad622), .val (.ref ad626), .val (.int (1 : Int32)), .val (.long l3), .second, .val (.ref ad643), .val (.ref ob), .val (.long e0q), .second, .unset, .unset, .unset, .unset, .unset, .unset] := ⟨_, rfl⟩
          refine own_up (S' := T666.setTop (mkF m 293 La670 [])) (fun t stp => XT.lstore X666.here hx rfl (hb hby at_291) rfl (l' := La670) (by rw [hLa665, hLa670]; rfl) stp) ?_
          refine own_up (S' := T666.setTop (mkF m 295 La670 [(.int (0 : Int32))])) (fun t stp => XS.iload X666.here hx rfl (hb hby at_293) (by rw [hLa670]; rfl) stp) ?_
          have hc295_671 : (0 : Int32) = 0 := hc98_618
          refine own_up (S' := T666.setTop (mkF m 305 La670 [])) (fun t stp => XS.ifYes X666.here hx rfl (pc0 := 295) (pc' := 305) rfl (hb hby at_295) rfl (XT.i0_eq_t hc295_671) (by decide) (by decide) stp) ?_
          refine own_up (S' := T666.setTop (mkF m 306 La670 [(.long l1)])) (fun t stp => XT.lloadN X666.here hx rfl (hb hby at_305) (by rw [hLa670]; rfl) stp) ?_
          obtain ⟨La672, hLa672⟩ : ∃ L : Array Slot, L = #[.val (.long l0), .second, .val (.long l1), .second, .val (.long l2), .second, .val (.long u0), .second, .val (.long u1), .second, .val (.int sel), .val (.int mm), .val (.int (1 : Int32)), .val (.int (0 : Int32)), .val (.int (0 : Int32)), .val (.int (0 : Int32)), .val (.long u0), .second, .val (.long u1), .second, .val (.long v2), .second, .val (.long v3), .second, .val (.int (1 : Int32)), .val (.ref ad622), .val (.ref ad626), .val (.int (1 : Int32)), .val (.long l3), .second, .val (.ref ad643), .val (.ref ob), .val (.long e0q), .second, .val (.long l1), .second, .unset, .unset, .unset, .unset] := ⟨_, rfl⟩
          refine own_up (S' := T666.setTop (mkF m 308 La672 [])) (fun t stp => XT.lstore X666.here hx rfl (hb hby at_306) rfl (l' := La672) (by rw [hLa670, hLa672]; rfl) stp) ?_
          refine own_up (S' := T666.setTop (mkF m 310 La672 [(.int (0 : Int32))])) (fun t stp => XS.iload X666.here hx rfl (hb hby at_308) (by rw [hLa672]; rfl) stp) ?_
          have hc310_673 : (0 : Int32) = 0 := hc98_618
          refine own_up (S' := T666.setTop (mkF m 321 La672 [])) (fun t stp => XS.ifYes X666.here hx rfl (pc0 := 310) (pc' := 321) rfl (hb hby at_310) rfl (XT.i0_eq_t hc310_673) (by decide) (by decide) stp) ?_
          refine own_up (S' := T666.setTop (mkF m 323 La672 [(.long l2)])) (fun t stp => XT.lload X666.here hx rfl (hb hby at_321) (by rw [hLa672]; rfl) stp) ?_
          obtain ⟨La674, hLa674⟩ : ∃ L : Array Slot, L = #[.val (.long l0), .second, .val (.long l1), .second, .val (.long l2), .second, .val (.long u0), .second, .val (.long u1), .second, .val (.int sel), .val (.int mm), .val (.int (1 : Int32)), .val (.int (0 : Int32)), .val (.int (0 : Int32)), .val (.int (0 : Int32)), .val (.long u0), .second, .val (.long u1), .second, .val (.long v2), .second, .val (.long v3), .second, .val (.int (1 : Int32)), .val (.ref ad622), .val (.ref ad626), .val (.int (1 : Int32)), .val (.long l3), .second, .val (.ref ad643), .val (.ref ob), .val (.long e0q), .second, .val (.long l1), .second, .val (.long l2), .second, .unset, .unset] := ⟨_, rfl⟩
          refine own_up (S' := T666.setTop (mkF m 325 La674 [])) (fun t stp => XT.lstore X666.here hx rfl (hb hby at_323) rfl (l' := La674) (by rw [hLa672, hLa674]; rfl) stp) ?_
          refine own_up (S' := T666.setTop (mkF m 327 La674 [(.int (0 : Int32))])) (fun t stp => XS.iload X666.here hx rfl (hb hby at_325) (by rw [hLa674]; rfl) stp) ?_
          have hc327_675 : (0 : Int32) = 0 := hc98_618
          refine own_up (S' := T666.setTop (mkF m 338 La674 [])) (fun t stp => XS.ifYes X666.here hx rfl (pc0 := 327) (pc' := 338) rfl (hb hby at_327) rfl (XT.i0_eq_t hc327_675) (by decide) (by decide) stp) ?_
          refine own_up (S' := T666.setTop (mkF m 340 La674 [(.long l3)])) (fun t stp => XT.lload X666.here hx rfl (hb hby at_338) (by rw [hLa674]; rfl) stp) ?_
          obtain ⟨La676, hLa676⟩ : ∃ L : Array Slot, L = #[.val (.long l0), .second, .val (.long l1), .second, .val (.long l2), .second, .val (.long u0), .second, .val (.long u1), .second, .val (.int sel), .val (.int mm), .val (.int (1 : Int32)), .val (.int (0 : Int32)), .val (.int (0 : Int32)), .val (.int (0 : Int32)), .val (.long u0), .second, .val (.long u1), .second, .val (.long v2), .second, .val (.long v3), .second, .val (.int (1 : Int32)), .val (.ref ad622), .val (.ref ad626), .val (.int (1 : Int32)), .val (.long l3), .second, .val (.ref ad643), .val (.ref ob), .val (.long e0q), .second, .val (.long l1), .second, .val (.long l2), .second, .val (.long l3), .second] := ⟨_, rfl⟩
          refine own_up (S' := T666.setTop (mkF m 342 La676 [])) (fun t stp => XT.lstore X666.here hx rfl (hb hby at_340) rfl (l' := La676) (by rw [hLa674, hLa676]; rfl) stp) ?_
          refine own_up (S' := T666.setTop (mkF m 344 La676 [(.ref ad643)])) (fun t stp => XS.aload X666.here hx rfl (hb hby at_342) (by rw [hLa676]; rfl) rfl stp) ?_
          refine own_len X666 hx hZ rfl Tk666 (4 : Int32) (hb hby at_344) (rfl) rfl rfl (g' := (mkF m 345 La676 [(.int (4 : Int32))])) rfl ?_
          refine own_up (S' := T666.setTop (mkF m 346 La676 [(.int (4 : Int32)), (.int (4 : Int32))])) (fun t stp => XT.iconstV X666.here hx rfl (4 : Int32) (hb hby at_345) rfl stp) ?_
          have hc346_677 : (4 : Int32) = (4 : Int32) := rfl
          refine own_up (S' := T666.setTop (mkF m 349 La676 [])) (fun t stp => XS.icmpNo X666.here hx rfl (hb hby at_346) rfl (XT.ii_ne_f hc346_677) stp) ?_
          refine own_up (S' := T666.setTop (mkF m 351 La676 [(.ref ad643)])) (fun t stp => XS.aload X666.here hx rfl (hb hby at_349) (by rw [hLa676]; rfl) rfl stp) ?_
          refine own_up (S' := T666.setTop (mkF m 352 La676 [(.int (0 : Int32)), (.ref ad643)])) (fun t stp => XT.iconstV X666.here hx rfl (0 : Int32) (hb hby at_351) rfl stp) ?_
          refine own_ldj X666 hx hZ rfl Tk666 (v := (.long (l0 - u0))) 0 (hb hby at_352) (rfl) (rfl) rfl rfl (g' := (mkF m 353 La676 [(.long (l0 - u0))])) rfl ?_
          refine own_up (S' := T666.setTop (mkF m 355 La676 [(.long e0q), (.long (l0 - u0))])) (fun t stp => XT.lload X666.here hx rfl (hb hby at_353) (by rw [hLa676]; rfl) stp) ?_
          refine own_up (S' := T666.setTop (mkF m 356 La676 [(.int (XT.cmpL (l0 - u0) e0q))])) (fun t stp => XT.lcmp X666.here hx rfl (hb hby at_355) rfl stp) ?_
          have hc356_678 : (l0 - u0) = e0q := h_e0q.symm
          have ihc356_678 : (l0 - u0).toInt = e0q.toInt := own_leq hc356_678
          refine own_up (S' := T666.setTop (mkF m 359 La676 [])) (fun t stp => XS.ifNo X666.here hx rfl (hb hby at_356) rfl (XT.ll_ne_f hc356_678) stp) ?_
          refine own_up (S' := T666.setTop (mkF m 361 La676 [(.ref ad643)])) (fun t stp => XS.aload X666.here hx rfl (hb hby at_359) (by rw [hLa676]; rfl) rfl stp) ?_
          refine own_up (S' := T666.setTop (mkF m 362 La676 [(.int (1 : Int32)), (.ref ad643)])) (fun t stp => XT.iconstV X666.here hx rfl (1 : Int32) (hb hby at_361) rfl stp) ?_
          refine own_ldj X666 hx hZ rfl Tk666 (v := (.long l1)) 1 (hb hby at_362) (rfl) (rfl) rfl rfl (g' := (mkF m 363 La676 [(.long l1)])) rfl ?_
          refine own_up (S' := T666.setTop (mkF m 365 La676 [(.long l1), (.long l1)])) (fun t stp => XT.lload X666.here hx rfl (hb hby at_363) (by rw [hLa676]; rfl) stp) ?_
          refine own_up (S' := T666.setTop (mkF m 366 La676 [(.int (XT.cmpL l1 l1))])) (fun t stp => XT.lcmp X666.here hx rfl (hb hby at_365) rfl stp) ?_
          have hc366_679 : l1 = l1 := rfl
          have ihc366_679 : l1.toInt = l1.toInt := own_leq hc366_679
          refine own_up (S' := T666.setTop (mkF m 369 La676 [])) (fun t stp => XS.ifNo X666.here hx rfl (hb hby at_366) rfl (XT.ll_ne_f hc366_679) stp) ?_
          refine own_up (S' := T666.setTop (mkF m 371 La676 [(.ref ad643)])) (fun t stp => XS.aload X666.here hx rfl (hb hby at_369) (by rw [hLa676]; rfl) rfl stp) ?_
          refine own_up (S' := T666.setTop (mkF m 372 La676 [(.int (2 : Int32)), (.ref ad643)])) (fun t stp => XT.iconstV X666.here hx rfl (2 : Int32) (hb hby at_371) rfl stp) ?_
          refine own_ldj X666 hx hZ rfl Tk666 (v := (.long l2)) 2 (hb hby at_372) (rfl) (rfl) rfl rfl (g' := (mkF m 373 La676 [(.long l2)])) rfl ?_
          refine own_up (S' := T666.setTop (mkF m 375 La676 [(.long l2), (.long l2)])) (fun t stp => XT.lload X666.here hx rfl (hb hby at_373) (by rw [hLa676]; rfl) stp) ?_
          refine own_up (S' := T666.setTop (mkF m 376 La676 [(.int (XT.cmpL l2 l2))])) (fun t stp => XT.lcmp X666.here hx rfl (hb hby at_375) rfl stp) ?_
          have hc376_680 : l2 = l2 := rfl
          have ihc376_680 : l2.toInt = l2.toInt := own_leq hc376_680
          refine own_up (S' := T666.setTop (mkF m 379 La676 [])) (fun t stp => XS.ifNo X666.here hx rfl (hb hby at_376) rfl (XT.ll_ne_f hc376_680) stp) ?_
          refine own_up (S' := T666.setTop (mkF m 381 La676 [(.ref ad643)])) (fun t stp => XS.aload X666.here hx rfl (hb hby at_379) (by rw [hLa676]; rfl) rfl stp) ?_
          refine own_up (S' := T666.setTop (mkF m 382 La676 [(.int (3 : Int32)), (.ref ad643)])) (fun t stp => XT.iconstV X666.here hx rfl (3 : Int32) (hb hby at_381) rfl stp) ?_
          refine own_ldj X666 hx hZ rfl Tk666 (v := (.long l3)) 3 (hb hby at_382) (rfl) (rfl) rfl rfl (g' := (mkF m 383 La676 [(.long l3)])) rfl ?_
          refine own_up (S' := T666.setTop (mkF m 385 La676 [(.long l3), (.long l3)])) (fun t stp => XT.lload X666.here hx rfl (hb hby at_383) (by rw [hLa676]; rfl) stp) ?_
          refine own_up (S' := T666.setTop (mkF m 386 La676 [(.int (XT.cmpL l3 l3))])) (fun t stp => XT.lcmp X666.here hx rfl (hb hby at_385) rfl stp) ?_
          have hc386_681 : l3 = l3 := rfl
          have ihc386_681 : l3.toInt = l3.toInt := own_leq hc386_681
          refine own_up (S' := T666.setTop (mkF m 389 La676 [])) (fun t stp => XS.ifNo X666.here hx rfl (hb hby at_386) rfl (XT.ll_ne_f hc386_681) stp) ?_
          refine own_up (S' := T666.setTop (mkF m 390 La676 [(.int (1 : Int32))])) (fun t stp => XT.iconstV X666.here hx rfl (1 : Int32) (hb hby at_389) rfl stp) ?_
          refine own_up (S' := T666.setTop (mkF m 394 La676 [(.int (1 : Int32))])) (fun t stp => XS.goto X666.here hx rfl (pc0 := 390) (pc' := 394) rfl (hb hby at_390) (by decide) (by decide) stp) ?_
          refine own_retN X666 hx hlk (t := .boolean) hret (by simp) (z' := (1 : Int32)) rfl (hb hby at_394) (by decide) (by decide) ?_
          show own_Q0 Z l0 l1 l2 u0 u1 sel h0 n0 _ T666.heap _
          exact ⟨rfl, N666⟩
        · have ihc54_611 : (mm &&& (8 : Int32)).toInt ≠ 0 := own_ine hc54_611
          refine own_up (S' := T0.setTop (mkF m 57 La610 [])) (fun t stp => XS.ifNo X0.here hx rfl (hb hby at_54) rfl (XT.i0_eq_f hc54_611) stp) ?_
          refine own_up (S' := T0.setTop (mkF m 58 La610 [(.int (1 : Int32))])) (fun t stp => XT.iconstV X0.here hx rfl (1 : Int32) (hb hby at_57) rfl stp) ?_
          refine own_up (S' := T0.setTop (mkF m 62 La610 [(.int (1 : Int32))])) (fun t stp => XS.goto X0.here hx rfl (pc0 := 58) (pc' := 62) rfl (hb hby at_58) (by decide) (by decide) stp) ?_
          obtain ⟨La682, hLa682⟩ : ∃ L : Array Slot, L = #[.val (.long l0), .second, .val (.long l1), .second, .val (.long l2), .second, .val (.long u0), .second, .val (.long u1), .second, .val (.int sel), .val (.int mm), .val (.int (1 : Int32)), .val (.int (0 : Int32)), .val (.int (0 : Int32)), .val (.int (1 : Int32)), .unset, .unset, .unset, .unset, .unset, .unset, .unset, .unset, .unset, .unset, .unset, .unset, .unset, .unset, .unset, .unset, .unset, .unset, .unset, .unset, .unset, .unset, .unset, .unset] := ⟨_, rfl⟩
          refine own_up (S' := T0.setTop (mkF m 64 La682 [])) (fun t stp => XS.istore X0.here hx rfl (hb hby at_62) rfl (l' := La682) (by rw [hLa610, hLa682]; rfl) stp) ?_
          refine own_up (S' := T0.setTop (mkF m 66 La682 [(.long u0)])) (fun t stp => XT.lload X0.here hx rfl (hb hby at_64) (by rw [hLa682]; rfl) stp) ?_
          obtain ⟨La683, hLa683⟩ : ∃ L : Array Slot, L = #[.val (.long l0), .second, .val (.long l1), .second, .val (.long l2), .second, .val (.long u0), .second, .val (.long u1), .second, .val (.int sel), .val (.int mm), .val (.int (1 : Int32)), .val (.int (0 : Int32)), .val (.int (0 : Int32)), .val (.int (1 : Int32)), .val (.long u0), .second, .unset, .unset, .unset, .unset, .unset, .unset, .unset, .unset, .unset, .unset, .unset, .unset, .unset, .unset, .unset, .unset, .unset, .unset, .unset, .unset, .unset, .unset] := ⟨_, rfl⟩
          refine own_up (S' := T0.setTop (mkF m 68 La683 [])) (fun t stp => XT.lstore X0.here hx rfl (hb hby at_66) rfl (l' := La683) (by rw [hLa682, hLa683]; rfl) stp) ?_
          refine own_up (S' := T0.setTop (mkF m 70 La683 [(.long u1)])) (fun t stp => XT.lload X0.here hx rfl (hb hby at_68) (by rw [hLa683]; rfl) stp) ?_
          obtain ⟨La684, hLa684⟩ : ∃ L : Array Slot, L = #[.val (.long l0), .second, .val (.long l1), .second, .val (.long l2), .second, .val (.long u0), .second, .val (.long u1), .second, .val (.int sel), .val (.int mm), .val (.int (1 : Int32)), .val (.int (0 : Int32)), .val (.int (0 : Int32)), .val (.int (1 : Int32)), .val (.long u0), .second, .val (.long u1), .second, .unset, .unset, .unset, .unset, .unset, .unset, .unset, .unset, .unset, .unset, .unset, .unset, .unset, .unset, .unset, .unset, .unset, .unset, .unset, .unset] := ⟨_, rfl⟩
          refine own_up (S' := T0.setTop (mkF m 72 La684 [])) (fun t stp => XT.lstore X0.here hx rfl (hb hby at_70) rfl (l' := La684) (by rw [hLa683, hLa684]; rfl) stp) ?_
          refine own_up (S' := T0.setTop (mkF m 74 La684 [(.long u0)])) (fun t stp => XT.lload X0.here hx rfl (hb hby at_72) (by rw [hLa684]; rfl) stp) ?_
          refine own_up (S' := T0.setTop (mkF m 76 La684 [(.long u1), (.long u0)])) (fun t stp => XT.lload X0.here hx rfl (hb hby at_74) (by rw [hLa684]; rfl) stp) ?_
          refine own_up (S' := T0.setTop (mkF m 77 La684 [(.long (u0 - u1))])) (fun t stp => XT.lsub X0.here hx rfl (hb hby at_76) rfl stp) ?_
          obtain ⟨v2, h_v2⟩ : ∃ z : Int64, z = (u0 - u1) := ⟨_, rfl⟩
          rw [← h_v2]
          obtain ⟨La685, hLa685⟩ : ∃ L : Array Slot, L = #[.val (.long l0), .second, .val (.long l1), .second, .val (.long l2), .second, .val (.long u0), .second, .val (.long u1), .second, .val (.int sel), .val (.int mm), .val (.int (1 : Int32)), .val (.int (0 : Int32)), .val (.int (0 : Int32)), .val (.int (1 : Int32)), .val (.long u0), .second, .val (.long u1), .second, .val (.long v2), .second, .unset, .unset, .unset, .unset, .unset, .unset, .unset, .unset, .unset, .unset, .unset, .unset, .unset, .unset, .unset, .unset, .unset, .unset] := ⟨_, rfl⟩
          refine own_up (S' := T0.setTop (mkF m 79 La685 [])) (fun t stp => XT.lstore X0.here hx rfl (hb hby at_77) rfl (l' := La685) (by rw [hLa684, hLa685]; rfl) stp) ?_
          refine own_up (S' := T0.setTop (mkF m 81 La685 [(.long u1)])) (fun t stp => XT.lload X0.here hx rfl (hb hby at_79) (by rw [hLa685]; rfl) stp) ?_
          refine own_up (S' := T0.setTop (mkF m 83 La685 [(.long l2), (.long u1)])) (fun t stp => XT.lload X0.here hx rfl (hb hby at_81) (by rw [hLa685]; rfl) stp) ?_
          refine own_up (S' := T0.setTop (mkF m 84 La685 [(.long (u1 ^^^ l2))])) (fun t stp => XT.lxor X0.here hx rfl (hb hby at_83) rfl stp) ?_
          obtain ⟨v3, h_v3⟩ : ∃ z : Int64, z = (u1 ^^^ l2) := ⟨_, rfl⟩
          rw [← h_v3]
          obtain ⟨La686, hLa686⟩ : ∃ L : Array Slot, L = #[.val (.long l0), .second, .val (.long l1), .second, .val (.long l2), .second, .val (.long u0), .second, .val (.long u1), .second, .val (.int sel), .val (.int mm), .val (.int (1 : Int32)), .val (.int (0 : Int32)), .val (.int (0 : Int32)), .val (.int (1 : Int32)), .val (.long u0), .second, .val (.long u1), .second, .val (.long v2), .second, .val (.long v3), .second, .unset, .unset, .unset, .unset, .unset, .unset, .unset, .unset, .unset, .unset, .unset, .unset, .unset, .unset, .unset, .unset] := ⟨_, rfl⟩
          refine own_up (S' := T0.setTop (mkF m 86 La686 [])) (fun t stp => XT.lstore X0.here hx rfl (hb hby at_84) rfl (l' := La686) (by rw [hLa685, hLa686]; rfl) stp) ?_
          refine own_up (S' := T0.setTop (mkF m 88 La686 [(.int (1 : Int32))])) (fun t stp => XS.iload X0.here hx rfl (hb hby at_86) (by rw [hLa686]; rfl) stp) ?_
          have hc88_687 : ¬ ((1 : Int32) = 0) := by decide
          refine own_up (S' := T0.setTop (mkF m 91 La686 [])) (fun t stp => XS.ifNo X0.here hx rfl (hb hby at_88) rfl (XT.i0_eq_f hc88_687) stp) ?_
          refine own_up (S' := T0.setTop (mkF m 92 La686 [(.int (1 : Int32))])) (fun t stp => XT.iconstV X0.here hx rfl (1 : Int32) (hb hby at_91) rfl stp) ?_
          refine own_up (S' := T0.setTop (mkF m 96 La686 [(.int (1 : Int32))])) (fun t stp => XS.goto X0.here hx rfl (pc0 := 92) (pc' := 96) rfl (hb hby at_92) (by decide) (by decide) stp) ?_
          refine own_up (S' := T0.setTop (mkF m 98 La686 [(.int (0 : Int32)), (.int (1 : Int32))])) (fun t stp => XS.iload X0.here hx rfl (hb hby at_96) (by rw [hLa686]; rfl) stp) ?_
          have hc98_688 : (0 : Int32) = 0 := by decide
          refine own_up (S' := T0.setTop (mkF m 105 La686 [(.int (1 : Int32))])) (fun t stp => XS.ifYes X0.here hx rfl (pc0 := 98) (pc' := 105) rfl (hb hby at_98) rfl (XT.i0_eq_t hc98_688) (by decide) (by decide) stp) ?_
          refine own_up (S' := T0.setTop (mkF m 106 La686 [(.int (0 : Int32)), (.int (1 : Int32))])) (fun t stp => XT.iconstV X0.here hx rfl (0 : Int32) (hb hby at_105) rfl stp) ?_
          refine own_up (S' := T0.setTop (mkF m 107 La686 [(.int ((1 : Int32) + (0 : Int32)))])) (fun t stp => XS.iadd X0.here hx rfl (hb hby at_106) rfl stp) ?_
          refine own_up (S' := T0.setTop (mkF m 109 La686 [(.int (0 : Int32)), (.int ((1 : Int32) + (0 : Int32)))])) (fun t stp => XS.iload X0.here hx rfl (hb hby at_107) (by rw [hLa686]; rfl) stp) ?_
          have hc109_689 : (0 : Int32) = 0 := hc98_688
          refine own_up (S' := T0.setTop (mkF m 116 La686 [(.int ((1 : Int32) + (0 : Int32)))])) (fun t stp => XS.ifYes X0.here hx rfl (pc0 := 109) (pc' := 116) rfl (hb hby at_109) rfl (XT.i0_eq_t hc109_689) (by decide) (by decide) stp) ?_
          refine own_up (S' := T0.setTop (mkF m 117 La686 [(.int (0 : Int32)), (.int ((1 : Int32) + (0 : Int32)))])) (fun t stp => XT.iconstV X0.here hx rfl (0 : Int32) (hb hby at_116) rfl stp) ?_
          refine own_up (S' := T0.setTop (mkF m 118 La686 [(.int (((1 : Int32) + (0 : Int32)) + (0 : Int32)))])) (fun t stp => XS.iadd X0.here hx rfl (hb hby at_117) rfl stp) ?_
          refine own_up (S' := T0.setTop (mkF m 120 La686 [(.int (1 : Int32)), (.int (((1 : Int32) + (0 : Int32)) + (0 : Int32)))])) (fun t stp => XS.iload X0.here hx rfl (hb hby at_118) (by rw [hLa686]; rfl) stp) ?_
          have hc120_690 : ¬ ((1 : Int32) = 0) := hc88_687
          refine own_up (S' := T0.setTop (mkF m 123 La686 [(.int (((1 : Int32) + (0 : Int32)) + (0 : Int32)))])) (fun t stp => XS.ifNo X0.here hx rfl (hb hby at_120) rfl (XT.i0_eq_f hc120_690) stp) ?_
          refine own_up (S' := T0.setTop (mkF m 124 La686 [(.int (1 : Int32)), (.int (((1 : Int32) + (0 : Int32)) + (0 : Int32)))])) (fun t stp => XT.iconstV X0.here hx rfl (1 : Int32) (hb hby at_123) rfl stp) ?_
          refine own_up (S' := T0.setTop (mkF m 128 La686 [(.int (1 : Int32)), (.int (((1 : Int32) + (0 : Int32)) + (0 : Int32)))])) (fun t stp => XS.goto X0.here hx rfl (pc0 := 124) (pc' := 128) rfl (hb hby at_124) (by decide) (by decide) stp) ?_
          refine own_up (S' := T0.setTop (mkF m 129 La686 [(.int ((((1 : Int32) + (0 : Int32)) + (0 : Int32)) + (1 : Int32)))])) (fun t stp => XS.iadd X0.here hx rfl (hb hby at_128) rfl stp) ?_
          show own_Ends p e below s (own_Q0 Z l0 l1 l2 u0 u1 sel h0 n0) room_1.cells room_1.slots (T0.setTop (mkF m 129 La686 [(.int (2 : Int32))]))
          obtain ⟨La691, hLa691⟩ : ∃ L : Array Slot, L = #[.val (.long l0), .second, .val (.long l1), .second, .val (.long l2), .second, .val (.long u0), .second, .val (.long u1), .second, .val (.int sel), .val (.int mm), .val (.int (1 : Int32)), .val (.int (0 : Int32)), .val (.int (0 : Int32)), .val (.int (1 : Int32)), .val (.long u0), .second, .val (.long u1), .second, .val (.long v2), .second, .val (.long v3), .second, .val (.int (2 : Int32)), .unset, .unset, .unset, .unset, .unset, .unset, .unset, .unset, .unset, .unset, .unset, .unset, .unset, .unset, .unset] := ⟨_, rfl⟩
          refine own_up (S' := T0.setTop (mkF m 131 La691 [])) (fun t stp => XS.istore X0.here hx rfl (hb hby at_129) rfl (l' := La691) (by rw [hLa686, hLa691]; rfl) stp) ?_
          refine own_up (S' := T0.setTop (mkF m 133 La691 [(.int (2 : Int32))])) (fun t stp => XS.iload X0.here hx rfl (hb hby at_131) (by rw [hLa691]; rfl) stp) ?_
          refine own_newa X0 hx hZ (ty := .int) rfl (hw _ (List.mem_of_getElem? (i := 0) rfl)) e0 2 (hb hby at_133) (rfl) 2 (by decide) (by decide) (by decide) (by decide) rfl rfl ?_
          intro T692 h692 ad692 hb692 X692 e692 E692 A692
          have g_ad692 : n0 ≤ ad692 := Nat.le_trans Z0 (Nat.le_of_eq hb692.symm)
          have Zn693 := Nat.le_trans Z0 E692.1
          have Al692 : own_Al Z h692 ad692 .int [(.int (0 : Int32)), (.int (0 : Int32))] := A692
          show own_Ends p e below s (own_Q0 Z l0 l1 l2 u0 u1 sel h0 n0) room_1.cells room_1.slots (T692.setTop (mkF m 135 La691 [(.ref ad692)]))
          obtain ⟨La695, hLa695⟩ : ∃ L : Array Slot, L = #[.val (.long l0), .second, .val (.long l1), .second, .val (.long l2), .second, .val (.long u0), .second, .val (.long u1), .second, .val (.int sel), .val (.int mm), .val (.int (1 : Int32)), .val (.int (0 : Int32)), .val (.int (0 : Int32)), .val (.int (1 : Int32)), .val (.long u0), .second, .val (.long u1), .second, .val (.long v2), .second, .val (.long v3), .second, .val (.int (2 : Int32)), .val (.ref ad692), .unset, .unset, .unset, .unset, .unset, .unset, .unset, .unset, .unset, .unset, .unset, .unset, .unset, .unset] := ⟨_, rfl⟩
          refine own_up (S' := T692.setTop (mkF m 137 La695 [])) (fun t stp => XS.astore X692.here hx rfl (hb hby at_135) rfl rfl (l' := La695) (by rw [hLa691, hLa695]; rfl) stp) ?_
          refine own_up (S' := T692.setTop (mkF m 139 La695 [(.int (2 : Int32))])) (fun t stp => XS.iload X692.here hx rfl (hb hby at_137) (by rw [hLa695]; rfl) stp) ?_
          refine own_newa X692 hx hZ (ty := .long) rfl (hw _ (List.mem_of_getElem? (i := 1) rfl)) e692 2 (hb hby at_139) (rfl) 2 (by decide) (by decide) (by decide) (by decide) rfl rfl ?_
          intro T696 h696 ad696 hb696 X696 e696 E696 A696
          have ne696_ad692_ad696 : ad692 ≠ ad696 := Nat.ne_of_lt (Nat.lt_of_lt_of_eq (own_Al_lt Al692) hb696.symm)
          have g_ad696 : n0 ≤ ad696 := Nat.le_trans Zn693 (Nat.le_of_eq hb696.symm)
          have Zn697 := Nat.le_trans Zn693 E696.1
          have Al692_698 := own_Al_ext E696 Al692
          have Al696 : own_Al Z h696 ad696 .long [(.long (0 : Int64)), (.long (0 : Int64))] := A696
          show own_Ends p e below s (own_Q0 Z l0 l1 l2 u0 u1 sel h0 n0) room_1.cells room_1.slots (T696.setTop (mkF m 141 La695 [(.ref ad696)]))
          obtain ⟨La699, hLa699⟩ : ∃ L : Array Slot, L = #[.val (.long l0), .second, .val (.long l1), .second, .val (.long l2), .second, .val (.long u0), .second, .val (.long u1), .second, .val (.int sel), .val (.int mm), .val (.int (1 : Int32)), .val (.int (0 : Int32)), .val (.int (0 : Int32)), .val (.int (1 : Int32)), .val (.long u0), .second, .val (.long u1), .second, .val (.long v2), .second, .val (.long v3), .second, .val (.int (2 : Int32)), .val (.ref ad692), .val (.ref ad696), .unset, .unset, .unset, .unset, .unset, .unset, .unset, .unset, .unset, .unset, .unset, .unset, .unset] := ⟨_, rfl⟩
          refine own_up (S' := T696.setTop (mkF m 143 La699 [])) (fun t stp => XS.astore X696.here hx rfl (hb hby at_141) rfl rfl (l' := La699) (by rw [hLa695, hLa699]; rfl) stp) ?_
          refine own_up (S' := T696.setTop (mkF m 144 La699 [(.int (0 : Int32))])) (fun t stp => XT.iconstV X696.here hx rfl (0 : Int32) (hb hby at_143) rfl stp) ?_
          obtain ⟨La700, hLa700⟩ : ∃ L : Array Slot, L = #[.val (.long l0), .second, .val (.long l1), .second, .val (.long l2), .second, .val (.long u0), .second, .val (.long u1), .second, .val (.int sel), .val (.int mm), .val (.int (1 : Int32)), .val (.int (0 : Int32)), .val (.int (0 : Int32)), .val (.int (1 : Int32)), .val (.long u0), .second, .val (.long u1), .second, .val (.long v2), .second, .val (.long v3), .second, .val (.int (2 : Int32)), .val (.ref ad692), .val (.ref ad696), .val (.int (0 : Int32)), .unset, .unset, .unset, .unset, .unset, .unset, .unset, .unset, .unset, .unset, .unset, .unset] := ⟨_, rfl⟩
          refine own_up (S' := T696.setTop (mkF m 146 La700 [])) (fun t stp => XS.istore X696.here hx rfl (hb hby at_144) rfl (l' := La700) (by rw [hLa699, hLa700]; rfl) stp) ?_
          refine own_up (S' := T696.setTop (mkF m 148 La700 [(.int (1 : Int32))])) (fun t stp => XS.iload X696.here hx rfl (hb hby at_146) (by rw [hLa700]; rfl) stp) ?_
          have hc148_701 : ¬ ((1 : Int32) = 0) := hc88_687
          refine own_up (S' := T696.setTop (mkF m 151 La700 [])) (fun t stp => XS.ifNo X696.here hx rfl (hb hby at_148) rfl (XT.i0_eq_f hc148_701) stp) ?_
          refine own_up (S' := T696.setTop (mkF m 153 La700 [(.ref ad692)])) (fun t stp => XS.aload X696.here hx rfl (hb hby at_151) (by rw [hLa700]; rfl) rfl stp) ?_
          refine own_up (S' := T696.setTop (mkF m 155 La700 [(.int (0 : Int32)), (.ref ad692)])) (fun t stp => XS.iload X696.here hx rfl (hb hby at_153) (by rw [hLa700]; rfl) stp) ?_
          refine own_up (S' := T696.setTop (mkF m 156 La700 [(.int (0 : Int32)), (.int (0 : Int32)), (.ref ad692)])) (fun t stp => XT.iconstV X696.here hx rfl (0 : Int32) (hb hby at_155) rfl stp) ?_
          refine own_sti X696 hx hZ e696 Al692_698 0 (hb hby at_156) (rfl) (Nat.le_of_ble_eq_true rfl) rfl rfl (g' := (mkF m 157 La700 [])) rfl ?_
          intro T702 h702 X702 e702 W702 B702
          have Zn703 := Nat.le_trans Zn697 (Nat.le_of_eq W702.size.symm)
          have Al696_704 := own_Al_oth W702 Al696 (Ne.symm ne696_ad692_ad696)
          have N702 := Fr.snoc X702 N0 g_ad692
          have Al702 : own_Al Z h702 ad692 .int [(.int (0 : Int32)), (.int (0 : Int32))] := B702
          refine own_up (S' := T702.setTop (mkF m 159 La700 [(.ref ad696)])) (fun t stp => XS.aload X702.here hx rfl (hb hby at_157) (by rw [hLa700]; rfl) rfl stp) ?_
          refine own_up (S' := T702.setTop (mkF m 161 La700 [(.int (0 : Int32)), (.ref ad696)])) (fun t stp => XS.iload X702.here hx rfl (hb hby at_159) (by rw [hLa700]; rfl) stp) ?_
          refine own_up (S' := T702.setTop (mkF m 163 La700 [(.long u0), (.int (0 : Int32)), (.ref ad696)])) (fun t stp => XT.lload X702.here hx rfl (hb hby at_161) (by rw [hLa700]; rfl) stp) ?_
          refine own_stj X702 hx hZ e702 Al696_704 0 (hb hby at_163) (rfl) (Nat.le_of_ble_eq_true rfl) rfl rfl (g' := (mkF m 164 La700 [])) rfl ?_
          intro T705 h705 X705 e705 W705 B705
          have Zn706 := Nat.le_trans Zn703 (Nat.le_of_eq W705.size.symm)
          have Al702_707 := own_Al_oth W705 Al702 ne696_ad692_ad696
          have N705 := Fr.snoc X705 N702 g_ad696
          have Al705 : own_Al Z h705 ad696 .long [(.long u0), (.long (0 : Int64))] := B705
          obtain ⟨La708, hLa708⟩ : ∃ L : Array Slot, L = #[.val (.long l0), .second, .val (.long l1), .second, .val (.long l2), .second, .val (.long u0), .second, .val (.long u1), .second, .val (.int sel), .val (.int mm), .val (.int (1 : Int32)), .val (.int (0 : Int32)), .val (.int (0 : Int32)), .val (.int (1 : Int32)), .val (.long u0), .second, .val (.long u1), .second, .val (.long v2), .second, .val (.long v3), .second, .val (.int (2 : Int32)), .val (.ref ad692), .val (.ref ad696), .val (.int (1 : Int32)), .unset, .unset, .unset, .unset, .unset, .unset, .unset, .unset, .unset, .unset, .unset, .unset] := ⟨_, rfl⟩
          refine own_up (S' := T705.setTop (mkF m 167 La708 [])) (fun t stp => XT.iincV X705.here hx rfl (1 : Int32) (hb hby at_164) rfl (by rw [hLa700]; rfl) (l' := La708) (by rw [hLa700, hLa708]; rfl) stp) ?_
          refine own_up (S' := T705.setTop (mkF m 169 La708 [(.int (0 : Int32))])) (fun t stp => XS.iload X705.here hx rfl (hb hby at_167) (by rw [hLa708]; rfl) stp) ?_
          have hc169_709 : (0 : Int32) = 0 := hc98_688
          refine own_up (S' := T705.setTop (mkF m 188 La708 [])) (fun t stp => XS.ifYes X705.here hx rfl (pc0 := 169) (pc' := 188) rfl (hb hby at_169) rfl (XT.i0_eq_t hc169_709) (by decide) (by decide) stp) ?_
          refine own_up (S' := T705.setTop (mkF m 190 La708 [(.int (0 : Int32))])) (fun t stp => XS.iload X705.here hx rfl (hb hby at_188) (by rw [hLa708]; rfl) stp) ?_
          have hc190_710 : (0 : Int32) = 0 := hc98_688
          refine own_up (S' := T705.setTop (mkF m 209 La708 [])) (fun t stp => XS.ifYes X705.here hx rfl (pc0 := 190) (pc' := 209) rfl (hb hby at_190) rfl (XT.i0_eq_t hc190_710) (by decide) (by decide) stp) ?_
          refine own_up (S' := T705.setTop (mkF m 211 La708 [(.int (1 : Int32))])) (fun t stp => XS.iload X705.here hx rfl (hb hby at_209) (by rw [hLa708]; rfl) stp) ?_
          have hc211_711 : ¬ ((1 : Int32) = 0) := hc88_687
          refine own_up (S' := T705.setTop (mkF m 214 La708 [])) (fun t stp => XS.ifNo X705.here hx rfl (hb hby at_211) rfl (XT.i0_eq_f hc211_711) stp) ?_
          refine own_up (S' := T705.setTop (mkF m 216 La708 [(.ref ad692)])) (fun t stp => XS.aload X705.here hx rfl (hb hby at_214) (by rw [hLa708]; rfl) rfl stp) ?_
          refine own_up (S' := T705.setTop (mkF m 218 La708 [(.int (1 : Int32)), (.ref ad692)])) (fun t stp => XS.iload X705.here hx rfl (hb hby at_216) (by rw [hLa708]; rfl) stp) ?_
          refine own_up (S' := T705.setTop (mkF m 219 La708 [(.int (3 : Int32)), (.int (1 : Int32)), (.ref ad692)])) (fun t stp => XT.iconstV X705.here hx rfl (3 : Int32) (hb hby at_218) rfl stp) ?_
          refine own_sti X705 hx hZ e705 Al702_707 1 (hb hby at_219) (rfl) (Nat.le_of_ble_eq_true rfl) rfl rfl (g' := (mkF m 220 La708 [])) rfl ?_
          intro T712 h712 X712 e712 W712 B712
          have Zn713 := Nat.le_trans Zn706 (Nat.le_of_eq W712.size.symm)
          have Al705_714 := own_Al_oth W712 Al705 (Ne.symm ne696_ad692_ad696)
          have N712 := Fr.snoc X712 N705 g_ad692
          have Al712 : own_Al Z h712 ad692 .int [(.int (0 : Int32)), (.int (3 : Int32))] := B712
          refine own_up (S' := T712.setTop (mkF m 222 La708 [(.ref ad696)])) (fun t stp => XS.aload X712.here hx rfl (hb hby at_220) (by rw [hLa708]; rfl) rfl stp) ?_
          refine own_up (S' := T712.setTop (mkF m 224 La708 [(.int (1 : Int32)), (.ref ad696)])) (fun t stp => XS.iload X712.here hx rfl (hb hby at_222) (by rw [hLa708]; rfl) stp) ?_
          refine own_up (S' := T712.setTop (mkF m 226 La708 [(.long v3), (.int (1 : Int32)), (.ref ad696)])) (fun t stp => XT.lload X712.here hx rfl (hb hby at_224) (by rw [hLa708]; rfl) stp) ?_
          refine own_stj X712 hx hZ e712 Al705_714 1 (hb hby at_226) (rfl) (Nat.le_of_ble_eq_true rfl) rfl rfl (g' := (mkF m 227 La708 [])) rfl ?_
          intro T715 h715 X715 e715 W715 B715
          have Zn716 := Nat.le_trans Zn713 (Nat.le_of_eq W715.size.symm)
          have Al712_717 := own_Al_oth W715 Al712 ne696_ad692_ad696
          have N715 := Fr.snoc X715 N712 g_ad696
          have Al715 : own_Al Z h715 ad696 .long [(.long u0), (.long v3)] := B715
          obtain ⟨La718, hLa718⟩ : ∃ L : Array Slot, L = #[.val (.long l0), .second, .val (.long l1), .second, .val (.long l2), .second, .val (.long u0), .second, .val (.long u1), .second, .val (.int sel), .val (.int mm), .val (.int (1 : Int32)), .val (.int (0 : Int32)), .val (.int (0 : Int32)), .val (.int (1 : Int32)), .val (.long u0), .second, .val (.long u1), .second, .val (.long v2), .second, .val (.long v3), .second, .val (.int (2 : Int32)), .val (.ref ad692), .val (.ref ad696), .val (.int (2 : Int32)), .unset, .unset, .unset, .unset, .unset, .unset, .unset, .unset, .unset, .unset, .unset, .unset] := ⟨_, rfl⟩
          refine own_up (S' := T715.setTop (mkF m 230 La718 [])) (fun t stp => XT.iincV X715.here hx rfl (1 : Int32) (hb hby at_227) rfl (by rw [hLa708]; rfl) (l' := La718) (by rw [hLa708, hLa718]; rfl) stp) ?_
          refine own_up (S' := T715.setTop (mkF m 231 La718 [(.long l0)])) (fun t stp => XT.lloadN X715.here hx rfl (hb hby at_230) (by rw [hLa718]; rfl) stp) ?_
          refine own_up (S' := T715.setTop (mkF m 232 La718 [(.long l1), (.long l0)])) (fun t stp => XT.lloadN X715.here hx rfl (hb hby at_231) (by rw [hLa718]; rfl) stp) ?_
          refine own_up (S' := T715.setTop (mkF m 233 La718 [(.long (l0 ^^^ l1))])) (fun t stp => XT.lxor X715.here hx rfl (hb hby at_232) rfl stp) ?_
          obtain ⟨l3, h_l3⟩ : ∃ z : Int64, z = (l0 ^^^ l1) := ⟨_, rfl⟩
          rw [← h_l3]
          obtain ⟨La719, hLa719⟩ : ∃ L : Array Slot, L = #[.val (.long l0), .second, .val (.long l1), .second, .val (.long l2), .second, .val (.long u0), .second, .val (.long u1), .second, .val (.int sel), .val (.int mm), .val (.int (1 : Int32)), .val (.int (0 : Int32)), .val (.int (0 : Int32)), .val (.int (1 : Int32)), .val (.long u0), .second, .val (.long u1), .second, .val (.long v2), .second, .val (.long v3), .second, .val (.int (2 : Int32)), .val (.ref ad692), .val (.ref ad696), .val (.int (2 : Int32)), .val (.long l3), .second, .unset, .unset, .unset, .unset, .unset, .unset, .unset, .unset, .unset, .unset] := ⟨_, rfl⟩
          refine own_up (S' := T715.setTop (mkF m 235 La719 [])) (fun t stp => XT.lstore X715.here hx rfl (hb hby at_233) rfl (l' := La719) (by rw [hLa718, hLa719]; rfl) stp) ?_
          refine own_up (S' := T715.setTop (mkF m 236 La719 [(.int (4 : Int32))])) (fun t stp => XT.iconstV X715.here hx rfl (4 : Int32) (hb hby at_235) rfl stp) ?_
          refine own_newa X715 hx hZ (ty := .long) rfl (hw _ (List.mem_of_getElem? (i := 1) rfl)) e715 4 (hb hby at_236) (rfl) 4 (by decide) (by decide) (by decide) (by decide) rfl rfl ?_
          intro T720 h720 ad720 hb720 X720 e720 E720 A720
          have ne720_ad692_ad720 : ad692 ≠ ad720 := Nat.ne_of_lt (Nat.lt_of_lt_of_eq (own_Al_lt Al712_717) hb720.symm)
          have ne720_ad696_ad720 : ad696 ≠ ad720 := Nat.ne_of_lt (Nat.lt_of_lt_of_eq (own_Al_lt Al715) hb720.symm)
          have g_ad720 : n0 ≤ ad720 := Nat.le_trans Zn716 (Nat.le_of_eq hb720.symm)
          have Zn721 := Nat.le_trans Zn716 E720.1
          have Al712_722 := own_Al_ext E720 Al712_717
          have Al715_722 := own_Al_ext E720 Al715
          have Al720 : own_Al Z h720 ad720 .long [(.long (0 : Int64)), (.long (0 : Int64)), (.long (0 : Int64)), (.long (0 : Int64))] := A720
          show own_Ends p e below s (own_Q0 Z l0 l1 l2 u0 u1 sel h0 n0) room_1.cells room_1.slots (T720.setTop (mkF m 238 La719 [(.ref ad720)]))
          refine own_up (S' := T720.setTop (mkF m 239 La719 [(.ref ad720), (.ref ad720)])) (fun t stp => XS.dup X720.here hx rfl (hb hby at_238) rfl rfl stp) ?_
          refine own_up (S' := T720.setTop (mkF m 240 La719 [(.int (0 : Int32)), (.ref ad720), (.ref ad720)])) (fun t stp => XT.iconstV X720.here hx rfl (0 : Int32) (hb hby at_239) rfl stp) ?_
          refine own_up (S' := T720.setTop (mkF m 241 La719 [(.long l0), (.int (0 : Int32)), (.ref ad720), (.ref ad720)])) (fun t stp => XT.lloadN X720.here hx rfl (hb hby at_240) (by rw [hLa719]; rfl) stp) ?_
          refine own_stj X720 hx hZ e720 Al720 0 (hb hby at_241) (rfl) (Nat.le_of_ble_eq_true rfl) rfl rfl (g' := (mkF m 242 La719 [(.ref ad720)])) rfl ?_
          intro T723 h723 X723 e723 W723 B723
          have Zn724 := Nat.le_trans Zn721 (Nat.le_of_eq W723.size.symm)
          have Al712_725 := own_Al_oth W723 Al712_722 ne720_ad692_ad720
          have Al715_725 := own_Al_oth W723 Al715_722 ne720_ad696_ad720
          have N723 := Fr.snoc X723 N715 g_ad720
          have Al723 : own_Al Z h723 ad720 .long [(.long l0), (.long (0 : Int64)), (.long (0 : Int64)), (.long (0 : Int64))] := B723
          refine own_up (S' := T723.setTop (mkF m 243 La719 [(.ref ad720), (.ref ad720)])) (fun t stp => XS.dup X723.here hx rfl (hb hby at_242) rfl rfl stp) ?_
          refine own_up (S' := T723.setTop (mkF m 244 La719 [(.int (1 : Int32)), (.ref ad720), (.ref ad720)])) (fun t stp => XT.iconstV X723.here hx rfl (1 : Int32) (hb hby at_243) rfl stp) ?_
          refine own_up (S' := T723.setTop (mkF m 245 La719 [(.long l1), (.int (1 : Int32)), (.ref ad720), (.ref ad720)])) (fun t stp => XT.lloadN X723.here hx rfl (hb hby at_244) (by rw [hLa719]; rfl) stp) ?_
          refine own_stj X723 hx hZ e723 Al723 1 (hb hby at_245) (rfl) (Nat.le_of_ble_eq_true rfl) rfl rfl (g' := (mkF m 246 La719 [(.ref ad720)])) rfl ?_
          intro T726 h726 X726 e726 W726 B726
          have Zn727 := Nat.le_trans Zn724 (Nat.le_of_eq W726.size.symm)
          have Al712_728 := own_Al_oth W726 Al712_725 ne720_ad692_ad720
          have Al715_728 := own_Al_oth W726 Al715_725 ne720_ad696_ad720
          have N726 := Fr.snoc X726 N723 g_ad720
          have Al726 : own_Al Z h726 ad720 .long [(.long l0), (.long l1), (.long (0 : Int64)), (.long (0 : Int64))] := B726
          refine own_up (S' := T726.setTop (mkF m 247 La719 [(.ref ad720), (.ref ad720)])) (fun t stp => XS.dup X726.here hx rfl (hb hby at_246) rfl rfl stp) ?_
          refine own_up (S' := T726.setTop (mkF m 248 La719 [(.int (2 : Int32)), (.ref ad720), (.ref ad720)])) (fun t stp => XT.iconstV X726.here hx rfl (2 : Int32) (hb hby at_247) rfl stp) ?_
          refine own_up (S' := T726.setTop (mkF m 250 La719 [(.long l2), (.int (2 : Int32)), (.ref ad720), (.ref ad720)])) (fun t stp => XT.lload X726.here hx rfl (hb hby at_248) (by rw [hLa719]; rfl) stp) ?_
          refine own_stj X726 hx hZ e726 Al726 2 (hb hby at_250) (rfl) (Nat.le_of_ble_eq_true rfl) rfl rfl (g' := (mkF m 251 La719 [(.ref ad720)])) rfl ?_
          intro T729 h729 X729 e729 W729 B729
          have Zn730 := Nat.le_trans Zn727 (Nat.le_of_eq W729.size.symm)
          have Al712_731 := own_Al_oth W729 Al712_728 ne720_ad692_ad720
          have Al715_731 := own_Al_oth W729 Al715_728 ne720_ad696_ad720
          have N729 := Fr.snoc X729 N726 g_ad720
          have Al729 : own_Al Z h729 ad720 .long [(.long l0), (.long l1), (.long l2), (.long (0 : Int64))] := B729
          refine own_up (S' := T729.setTop (mkF m 252 La719 [(.ref ad720), (.ref ad720)])) (fun t stp => XS.dup X729.here hx rfl (hb hby at_251) rfl rfl stp) ?_
          refine own_up (S' := T729.setTop (mkF m 253 La719 [(.int (3 : Int32)), (.ref ad720), (.ref ad720)])) (fun t stp => XT.iconstV X729.here hx rfl (3 : Int32) (hb hby at_252) rfl stp) ?_
          refine own_up (S' := T729.setTop (mkF m 255 La719 [(.long l3), (.int (3 : Int32)), (.ref ad720), (.ref ad720)])) (fun t stp => XT.lload X729.here hx rfl (hb hby at_253) (by rw [hLa719]; rfl) stp) ?_
          refine own_stj X729 hx hZ e729 Al729 3 (hb hby at_255) (rfl) (Nat.le_of_ble_eq_true rfl) rfl rfl (g' := (mkF m 256 La719 [(.ref ad720)])) rfl ?_
          intro T732 h732 X732 e732 W732 B732
          have Zn733 := Nat.le_trans Zn730 (Nat.le_of_eq W732.size.symm)
          have Al712_734 := own_Al_oth W732 Al712_731 ne720_ad692_ad720
          have Al715_734 := own_Al_oth W732 Al715_731 ne720_ad696_ad720
          have N732 := Fr.snoc X732 N729 g_ad720
          have Al732 : own_Al Z h732 ad720 .long [(.long l0), (.long l1), (.long l2), (.long l3)] := B732
          obtain ⟨La735, hLa735⟩ : ∃ L : Array Slot, L = #[.val (.long l0), .second, .val (.long l1), .second, .val (.long l2), .second, .val (.long u0), .second, .val (.long u1), .second, .val (.int sel), .val (.int mm), .val (.int (1 : Int32)), .val (.int (0 : Int32)), .val (.int (0 : Int32)), .val (.int (1 : Int32)), .val (.long u0), .second, .val (.long u1), .second, .val (.long v2), .second, .val (.long v3), .second, .val (.int (2 : Int32)), .val (.ref ad692), .val (.ref ad696), .val (.int (2 : Int32)), .val (.long l3), .second, .val (.ref ad720), .unset, .unset, .unset, .unset, .unset, .unset, .unset, .unset, .unset] := ⟨_, rfl⟩
          refine own_up (S' := T732.setTop (mkF m 258 La735 [])) (fun t stp => XS.astore X732.here hx rfl (hb hby at_256) rfl rfl (l' := La735) (by rw [hLa719, hLa735]; rfl) stp) ?_
          refine own_new X732 hx hZ hown (hw _ (List.mem_of_getElem? (i := 2) rfl)) (hw _ (List.mem_of_getElem? (i := 3) rfl)) (hw _ (List.mem_of_getElem? (i := 4) rfl)) e732 rfl (hb hby at_258) (by decide) (by decide) ?_
          intro T736 h736 ob hb736 X736 e736 E736 A736 D736
          have ne736_ad692_ob : ad692 ≠ ob := Nat.ne_of_lt (Nat.lt_of_lt_of_eq (own_Al_lt Al712_734) hb736.symm)
          have ne736_ad696_ob : ad696 ≠ ob := Nat.ne_of_lt (Nat.lt_of_lt_of_eq (own_Al_lt Al715_734) hb736.symm)
          have ne736_ad720_ob : ad720 ≠ ob := Nat.ne_of_lt (Nat.lt_of_lt_of_eq (own_Al_lt Al732) hb736.symm)
          have g_ob : n0 ≤ ob := Nat.le_trans Zn733 (Nat.le_of_eq hb736.symm)
          have Zn737 := Nat.le_trans Zn733 E736.1
          have Al712_738 := own_Al_ext E736 Al712_734
          have Al715_738 := own_Al_ext E736 Al715_734
          have Al732_738 := own_Al_ext E736 Al732
          have Fresources_ob : Fld Z h736 ob "com/example/outcry/outcry/combinatorial/Bundle" "resources" "[I" .null := D736 (Or.inr (hw _ (List.mem_of_getElem? (i := 17) rfl))) (ty := (.array .int)) (by decide)
          have Funits_ob : Fld Z h736 ob "com/example/outcry/outcry/combinatorial/Bundle" "units" "[J" .null := D736 (Or.inr (hw _ (List.mem_of_getElem? (i := 19) rfl))) (ty := (.array .long)) (by decide)
          show own_Ends p e below s (own_Q0 Z l0 l1 l2 u0 u1 sel h0 n0) room_1.cells room_1.slots (T736.setTop (mkF m 261 La735 [(.ref ob)]))
          refine own_up (S' := T736.setTop (mkF m 262 La735 [(.ref ob), (.ref ob)])) (fun t stp => XS.dup X736.here hx rfl (hb hby at_261) rfl rfl stp) ?_
          refine own_up (S' := T736.setTop (mkF m 264 La735 [(.ref ad692), (.ref ob), (.ref ob)])) (fun t stp => XS.aload X736.here hx rfl (hb hby at_262) (by rw [hLa735]; rfl) rfl stp) ?_
          refine own_up (S' := T736.setTop (mkF m 266 La735 [(.ref ad696), (.ref ad692), (.ref ob), (.ref ob)])) (fun t stp => XS.aload X736.here hx rfl (hb hby at_264) (by rw [hLa735]; rfl) rfl stp) ?_
          refine own_callI X736 hx hZ rfl hown (hw _ (List.mem_of_getElem? (i := 5) rfl)) (hw _ (List.mem_of_getElem? (i := 6) rfl)) (hw _ (List.mem_of_getElem? (i := 4) rfl)) (hw _ (List.mem_of_getElem? (i := 7) rfl)) (by decide) e736 (rm2 l Z a0 hw [] ob ad692 ad696 h736 n0 Zn737 Fresources_ob Funits_ob A736 g_ob) 1 ob [(.ref ad692), (.ref ad696)] [(.ref ob)] (hb hby at_266) (lenOf own_pd1 rfl) (by decide) (by decide) (by decide) (by decide) rfl (by rw [hml, hLa735]; rfl) rfl (by show 2 * 0 + _ ≤ _; exact Nat.le_of_eq rfl) rfl ?_
          intro T739 L739 r739 X739 q739
          obtain ⟨rfl, M739, K739, G739a_739, G739b_739⟩ := q739
          have N739 := Fr.app N732 M739
          have Zn740 := Nat.le_trans Zn737 K739.1
          have Al712_741 := own_Al_keep K739 Al712_738 (ninS ne736_ad692_ob nin0)
          have Al715_741 := own_Al_keep K739 Al715_738 (ninS ne736_ad696_ob nin0)
          have Al732_741 := own_Al_keep K739 Al732_738 (ninS ne736_ad720_ob nin0)
          have A736_741 := A736.keep K739
          show own_Ends p e below s (own_Q0 Z l0 l1 l2 u0 u1 sel h0 n0) room_1.cells room_1.slots (T739.setTop (mkF m 269 La735 [(.ref ob)]))
          obtain ⟨La742, hLa742⟩ : ∃ L : Array Slot, L = #[.val (.long l0), .second, .val (.long l1), .second, .val (.long l2), .second, .val (.long u0), .second, .val (.long u1), .second, .val (.int sel), .val (.int mm), .val (.int (1 : Int32)), .val (.int (0 : Int32)), .val (.int (0 : Int32)), .val (.int (1 : Int32)), .val (.long u0), .second, .val (.long u1), .second, .val (.long v2), .second, .val (.long v3), .second, .val (.int (2 : Int32)), .val (.ref ad692), .val (.ref ad696), .val (.int (2 : Int32)), .val (.long l3), .second, .val (.ref ad720), .val (.ref ob), .unset, .unset, .unset, .unset, .unset, .unset, .unset, .unset] := ⟨_, rfl⟩
          refine own_up (S' := T739.setTop (mkF m 271 La742 [])) (fun t stp => XS.astore X739.here hx rfl (hb hby at_269) rfl rfl (l' := La742) (by rw [hLa735, hLa742]; rfl) stp) ?_
          refine own_up (S' := T739.setTop (mkF m 273 La742 [(.ref ob)])) (fun t stp => XS.aload X739.here hx rfl (hb hby at_271) (by rw [hLa742]; rfl) rfl stp) ?_
          refine own_up (S' := T739.setTop (mkF m 275 La742 [(.ref ad720), (.ref ob)])) (fun t stp => XS.aload X739.here hx rfl (hb hby at_273) (by rw [hLa742]; rfl) rfl stp) ?_
          refine own_callV X739 hx hZ hown (hw _ (List.mem_of_getElem? (i := 20) rfl)) (hw _ (List.mem_of_getElem? (i := 21) rfl)) (hw _ (List.mem_of_getElem? (i := 23) rfl)) (hw _ (List.mem_of_getElem? (i := 22) rfl)) (hw _ (List.mem_of_getElem? (i := 4) rfl)) (hw _ (List.mem_of_getElem? (i := 24) rfl)) (by decide) rfl (rm12 l Z a0 hw [] ob ad720 ad692 ad696 [(.long l0), (.long l1), (.long l2), (.long l3)] (0 : Int32) u0 (0) l0 (3 : Int32) v3 (3) l3 T739.heap n0 Zn740 G739a_739 G739b_739 Al712_741 Al715_741 Al732_741 g_ad720 ne720_ad692_ad720 ne720_ad696_ad720 (Ne.symm ne736_ad720_ob) (rfl) (rfl) (rfl) (rfl)) 0 A736_741 [(.ref ad720)] [] (hb hby at_275) (lenOf own_pd2 rfl) (by decide) (by decide) (by decide) (by decide) rfl (by rw [hml, hLa742]; rfl) rfl (by show 2 * 0 + _ ≤ _; exact Nat.le_of_eq rfl) rfl ?_
          intro T743 L743 r743 X743 q743
          obtain ⟨rfl, M743, K743, G743a_743⟩ := q743
          have N743 := Fr.app N739 M743
          have Zn744 := Nat.le_trans Zn740 K743.1
          have Al712_745 := own_Al_keep K743 Al712_741 (ninS ne720_ad692_ad720 nin0)
          have Al715_745 := own_Al_keep K743 Al715_741 (ninS ne720_ad696_ad720 nin0)
          have A736_745 := A736_741.keep K743
          have G739a_745 := G739a_739.keep K743 (ninS (Ne.symm ne736_ad720_ob) nin0)
          have G739b_745 := G739b_739.keep K743 (ninS (Ne.symm ne736_ad720_ob) nin0)
          show own_Ends p e below s (own_Q0 Z l0 l1 l2 u0 u1 sel h0 n0) room_1.cells room_1.slots (T743.setTop (mkF m 278 La742 []))
          have Tk743 : own_Al Z T743.heap ad720 .long [(.long (l0 - u0)), (.long l1), (.long l2), (.long (l3 - v3))] := G743a_743
          refine own_up (S' := T743.setTop (mkF m 280 La742 [(.int (1 : Int32))])) (fun t stp => XS.iload X743.here hx rfl (hb hby at_278) (by rw [hLa742]; rfl) stp) ?_
          have hc280_746 : ¬ ((1 : Int32) = 0) := hc88_687
          refine own_up (S' := T743.setTop (mkF m 283 La742 [])) (fun t stp => XS.ifNo X743.here hx rfl (hb hby at_280) rfl (XT.i0_eq_f hc280_746) stp) ?_
          refine own_up (S' := T743.setTop (mkF m 284 La742 [(.long l0)])) (fun t stp => XT.lloadN X743.here hx rfl (hb hby at_283) (by rw [hLa742]; rfl) stp) ?_
          refine own_up (S' := T743.setTop (mkF m 286 La742 [(.long u0), (.long l0)])) (fun t stp => XT.lload X743.here hx rfl (hb hby at_284) (by rw [hLa742]; rfl) stp) ?_
          refine own_up (S' := T743.setTop (mkF m 287 La742 [(.long (l0 - u0))])) (fun t stp => XT.lsub X743.here hx rfl (hb hby at_286) rfl stp) ?_
          refine own_up (S' := T743.setTop (mkF m 291 La742 [(.long (l0 - u0))])) (fun t stp => XS.goto X743.here hx rfl (pc0 := 287) (pc' := 291) rfl (hb hby at_287) (by decide) (by decide) stp) ?_
          obtain ⟨e0q, h_e0q⟩ : ∃ z : Int64, z = (l0 - u0) := ⟨_, rfl⟩
          rw [← h_e0q]
          obtain ⟨La747, hLa747⟩ : ∃ L : Array Slot, L = #[.val (.long l0), .second, .val (.long l1), .second, .val (.long l2), .second, .val (.long u0), .second, .val (.long u1), .second, .val (.int sel), .val (.int mm), .val (.int (1 : Int32)), .val (.int (0 : Int32)), .val (.int (0 : Int32)), .val (.int (1 : Int32)), .val (.long u0), .second, .val (.long u1), .second, .val (.long v2), .second, .val (.long v3), .second, .val (.int (2 : Int32)), .val (.ref ad692), .val (.ref ad696), .val (.int (2 : Int32)), .val (.long l3), .second, .val (.ref ad720), .val (.ref ob), .val (.long e0q), .second, .unset, .unset, .unset, .unset, .unset, .unset] := ⟨_, rfl⟩
          refine own_up (S' := T743.setTop (mkF m 293 La747 [])) (fun t stp => XT.lstore X743.here hx rfl (hb hby at_291) rfl (l' := La747) (by rw [hLa742, hLa747]; rfl) stp) ?_
          refine own_up (S' := T743.setTop (mkF m 295 La747 [(.int (0 : Int32))])) (fun t stp => XS.iload X743.here hx rfl (hb hby at_293) (by rw [hLa747]; rfl) stp) ?_
          have hc295_748 : (0 : Int32) = 0 := hc98_688
          refine own_up (S' := T743.setTop (mkF m 305 La747 [])) (fun t stp => XS.ifYes X743.here hx rfl (pc0 := 295) (pc' := 305) rfl (hb hby at_295) rfl (XT.i0_eq_t hc295_748) (by decide) (by decide) stp) ?_
          refine own_up (S' := T743.setTop (mkF m 306 La747 [(.long l1)])) (fun t stp => XT.lloadN X743.here hx rfl (hb hby at_305) (by rw [hLa747]; rfl) stp) ?_
          obtain ⟨La749, hLa749⟩ : ∃ L : Array Slot, L = #[.val (.long l0), .second, .val (.long l1), .second, .val (.long l2), .second, .val (.long u0), .second, .val (.long u1), .second, .val (.int sel), .val (.int mm), .val (.int (1 : Int32)), .val (.int (0 : Int32)), .val (.int (0 : Int32)), .val (.int (1 : Int32)), .val (.long u0), .second, .val (.long u1), .second, .val (.long v2), .second, .val (.long v3), .second, .val (.int (2 : Int32)), .val (.ref ad692), .val (.ref ad696), .val (.int (2 : Int32)), .val (.long l3), .second, .val (.ref ad720), .val (.ref ob), .val (.long e0q), .second, .val (.long l1), .second, .unset, .unset, .unset, .unset] := ⟨_, rfl⟩
          refine own_up (S' := T743.setTop (mkF m 308 La749 [])) (fun t stp => XT.lstore X743.here hx rfl (hb hby at_306) rfl (l' := La749) (by rw [hLa747, hLa749]; rfl) stp) ?_
          refine own_up (S' := T743.setTop (mkF m 310 La749 [(.int (0 : Int32))])) (fun t stp => XS.iload X743.here hx rfl (hb hby at_308) (by rw [hLa749]; rfl) stp) ?_
          have hc310_750 : (0 : Int32) = 0 := hc98_688
          refine own_up (S' := T743.setTop (mkF m 321 La749 [])) (fun t stp => XS.ifYes X743.here hx rfl (pc0 := 310) (pc' := 321) rfl (hb hby at_310) rfl (XT.i0_eq_t hc310_750) (by decide) (by decide) stp) ?_
          refine own_up (S' := T743.setTop (mkF m 323 La749 [(.long l2)])) (fun t stp => XT.lload X743.here hx rfl (hb hby at_321) (by rw [hLa749]; rfl) stp) ?_
          obtain ⟨La751, hLa751⟩ : ∃ L : Array Slot, L = #[.val (.long l0), .second, .val (.long l1), .second, .val (.long l2), .second, .val (.long u0), .second, .val (.long u1), .second, .val (.int sel), .val (.int mm), .val (.int (1 : Int32)), .val (.int (0 : Int32)), .val (.int (0 : Int32)), .val (.int (1 : Int32)), .val (.long u0), .second, .val (.long u1), .second, .val (.long v2), .second, .val (.long v3), .second, .val (.int (2 : Int32)), .val (.ref ad692), .val (.ref ad696), .val (.int (2 : Int32)), .val (.long l3), .second, .val (.ref ad720), .val (.ref ob), .val (.long e0q), .second, .val (.long l1), .second, .val (.long l2), .second, .unset, .unset] := ⟨_, rfl⟩
          refine own_up (S' := T743.setTop (mkF m 325 La751 [])) (fun t stp => XT.lstore X743.here hx rfl (hb hby at_323) rfl (l' := La751) (by rw [hLa749, hLa751]; rfl) stp) ?_
          refine own_up (S' := T743.setTop (mkF m 327 La751 [(.int (1 : Int32))])) (fun t stp => XS.iload X743.here hx rfl (hb hby at_325) (by rw [hLa751]; rfl) stp) ?_
          have hc327_752 : ¬ ((1 : Int32) = 0) := hc88_687
          refine own_up (S' := T743.setTop (mkF m 330 La751 [])) (fun t stp => XS.ifNo X743.here hx rfl (hb hby at_327) rfl (XT.i0_eq_f hc327_752) stp) ?_
          refine own_up (S' := T743.setTop (mkF m 332 La751 [(.long l3)])) (fun t stp => XT.lload X743.here hx rfl (hb hby at_330) (by rw [hLa751]; rfl) stp) ?_
          refine own_up (S' := T743.setTop (mkF m 334 La751 [(.long v3), (.long l3)])) (fun t stp => XT.lload X743.here hx rfl (hb hby at_332) (by rw [hLa751]; rfl) stp) ?_
          refine own_up (S' := T743.setTop (mkF m 335 La751 [(.long (l3 - v3))])) (fun t stp => XT.lsub X743.here hx rfl (hb hby at_334) rfl stp) ?_
          refine own_up (S' := T743.setTop (mkF m 340 La751 [(.long (l3 - v3))])) (fun t stp => XS.goto X743.here hx rfl (pc0 := 335) (pc' := 340) rfl (hb hby at_335) (by decide) (by decide) stp) ?_
          obtain ⟨e3q, h_e3q⟩ : ∃ z : Int64, z = (l3 - v3) := ⟨_, rfl⟩
          rw [← h_e3q]
          obtain ⟨La753, hLa753⟩ : ∃ L : Array Slot, L = #[.val (.long l0), .second, .val (.long l1), .second, .val (.long l2), .second, .val (.long u0), .second, .val (.long u1), .second, .val (.int sel), .val (.int mm), .val (.int (1 : Int32)), .val (.int (0 : Int32)), .val (.int (0 : Int32)), .val (.int (1 : Int32)), .val (.long u0), .second, .val (.long u1), .second, .val (.long v2), .second, .val (.long v3), .second, .val (.int (2 : Int32)), .val (.ref ad692), .val (.ref ad696), .val (.int (2 : Int32)), .val (.long l3), .second, .val (.ref ad720), .val (.ref ob), .val (.long e0q), .second, .val (.long l1), .second, .val (.long l2), .second, .val (.long e3q), .second] := ⟨_, rfl⟩
          refine own_up (S' := T743.setTop (mkF m 342 La753 [])) (fun t stp => XT.lstore X743.here hx rfl (hb hby at_340) rfl (l' := La753) (by rw [hLa751, hLa753]; rfl) stp) ?_
          refine own_up (S' := T743.setTop (mkF m 344 La753 [(.ref ad720)])) (fun t stp => XS.aload X743.here hx rfl (hb hby at_342) (by rw [hLa753]; rfl) rfl stp) ?_
          refine own_len X743 hx hZ rfl Tk743 (4 : Int32) (hb hby at_344) (rfl) rfl rfl (g' := (mkF m 345 La753 [(.int (4 : Int32))])) rfl ?_
          refine own_up (S' := T743.setTop (mkF m 346 La753 [(.int (4 : Int32)), (.int (4 : Int32))])) (fun t stp => XT.iconstV X743.here hx rfl (4 : Int32) (hb hby at_345) rfl stp) ?_
          have hc346_754 : (4 : Int32) = (4 : Int32) := rfl
          refine own_up (S' := T743.setTop (mkF m 349 La753 [])) (fun t stp => XS.icmpNo X743.here hx rfl (hb hby at_346) rfl (XT.ii_ne_f hc346_754) stp) ?_
          refine own_up (S' := T743.setTop (mkF m 351 La753 [(.ref ad720)])) (fun t stp => XS.aload X743.here hx rfl (hb hby at_349) (by rw [hLa753]; rfl) rfl stp) ?_
          refine own_up (S' := T743.setTop (mkF m 352 La753 [(.int (0 : Int32)), (.ref ad720)])) (fun t stp => XT.iconstV X743.here hx rfl (0 : Int32) (hb hby at_351) rfl stp) ?_
          refine own_ldj X743 hx hZ rfl Tk743 (v := (.long (l0 - u0))) 0 (hb hby at_352) (rfl) (rfl) rfl rfl (g' := (mkF m 353 La753 [(.long (l0 - u0))])) rfl ?_
          refine own_up (S' := T743.setTop (mkF m 355 La753 [(.long e0q), (.long (l0 - u0))])) (fun t stp => XT.lload X743.here hx rfl (hb hby at_353) (by rw [hLa753]; rfl) stp) ?_
          refine own_up (S' := T743.setTop (mkF m 356 La753 [(.int (XT.cmpL (l0 - u0) e0q))])) (fun t stp => XT.lcmp X743.here hx rfl (hb hby at_355) rfl stp) ?_
          have hc356_755 : (l0 - u0) = e0q := h_e0q.symm
          have ihc356_755 : (l0 - u0).toInt = e0q.toInt := own_leq hc356_755
          refine own_up (S' := T743.setTop (mkF m 359 La753 [])) (fun t stp => XS.ifNo X743.here hx rfl (hb hby at_356) rfl (XT.ll_ne_f hc356_755) stp) ?_
          refine own_up (S' := T743.setTop (mkF m 361 La753 [(.ref ad720)])) (fun t stp => XS.aload X743.here hx rfl (hb hby at_359) (by rw [hLa753]; rfl) rfl stp) ?_
          refine own_up (S' := T743.setTop (mkF m 362 La753 [(.int (1 : Int32)), (.ref ad720)])) (fun t stp => XT.iconstV X743.here hx rfl (1 : Int32) (hb hby at_361) rfl stp) ?_
          refine own_ldj X743 hx hZ rfl Tk743 (v := (.long l1)) 1 (hb hby at_362) (rfl) (rfl) rfl rfl (g' := (mkF m 363 La753 [(.long l1)])) rfl ?_
          refine own_up (S' := T743.setTop (mkF m 365 La753 [(.long l1), (.long l1)])) (fun t stp => XT.lload X743.here hx rfl (hb hby at_363) (by rw [hLa753]; rfl) stp) ?_
          refine own_up (S' := T743.setTop (mkF m 366 La753 [(.int (XT.cmpL l1 l1))])) (fun t stp => XT.lcmp X743.here hx rfl (hb hby at_365) rfl stp) ?_
          have hc366_756 : l1 = l1 := rfl
          have ihc366_756 : l1.toInt = l1.toInt := own_leq hc366_756
          refine own_up (S' := T743.setTop (mkF m 369 La753 [])) (fun t stp => XS.ifNo X743.here hx rfl (hb hby at_366) rfl (XT.ll_ne_f hc366_756) stp) ?_
          refine own_up (S' := T743.setTop (mkF m 371 La753 [(.ref ad720)])) (fun t stp => XS.aload X743.here hx rfl (hb hby at_369) (by rw [hLa753]; rfl) rfl stp) ?_
          refine own_up (S' := T743.setTop (mkF m 372 La753 [(.int (2 : Int32)), (.ref ad720)])) (fun t stp => XT.iconstV X743.here hx rfl (2 : Int32) (hb hby at_371) rfl stp) ?_
          refine own_ldj X743 hx hZ rfl Tk743 (v := (.long l2)) 2 (hb hby at_372) (rfl) (rfl) rfl rfl (g' := (mkF m 373 La753 [(.long l2)])) rfl ?_
          refine own_up (S' := T743.setTop (mkF m 375 La753 [(.long l2), (.long l2)])) (fun t stp => XT.lload X743.here hx rfl (hb hby at_373) (by rw [hLa753]; rfl) stp) ?_
          refine own_up (S' := T743.setTop (mkF m 376 La753 [(.int (XT.cmpL l2 l2))])) (fun t stp => XT.lcmp X743.here hx rfl (hb hby at_375) rfl stp) ?_
          have hc376_757 : l2 = l2 := rfl
          have ihc376_757 : l2.toInt = l2.toInt := own_leq hc376_757
          refine own_up (S' := T743.setTop (mkF m 379 La753 [])) (fun t stp => XS.ifNo X743.here hx rfl (hb hby at_376) rfl (XT.ll_ne_f hc376_757) stp) ?_
          refine own_up (S' := T743.setTop (mkF m 381 La753 [(.ref ad720)])) (fun t stp => XS.aload X743.here hx rfl (hb hby at_379) (by rw [hLa753]; rfl) rfl stp) ?_
          refine own_up (S' := T743.setTop (mkF m 382 La753 [(.int (3 : Int32)), (.ref ad720)])) (fun t stp => XT.iconstV X743.here hx rfl (3 : Int32) (hb hby at_381) rfl stp) ?_
          refine own_ldj X743 hx hZ rfl Tk743 (v := (.long (l3 - v3))) 3 (hb hby at_382) (rfl) (rfl) rfl rfl (g' := (mkF m 383 La753 [(.long (l3 - v3))])) rfl ?_
          refine own_up (S' := T743.setTop (mkF m 385 La753 [(.long e3q), (.long (l3 - v3))])) (fun t stp => XT.lload X743.here hx rfl (hb hby at_383) (by rw [hLa753]; rfl) stp) ?_
          refine own_up (S' := T743.setTop (mkF m 386 La753 [(.int (XT.cmpL (l3 - v3) e3q))])) (fun t stp => XT.lcmp X743.here hx rfl (hb hby at_385) rfl stp) ?_
          have hc386_758 : (l3 - v3) = e3q := h_e3q.symm
          have ihc386_758 : (l3 - v3).toInt = e3q.toInt := own_leq hc386_758
          refine own_up (S' := T743.setTop (mkF m 389 La753 [])) (fun t stp => XS.ifNo X743.here hx rfl (hb hby at_386) rfl (XT.ll_ne_f hc386_758) stp) ?_
          refine own_up (S' := T743.setTop (mkF m 390 La753 [(.int (1 : Int32))])) (fun t stp => XT.iconstV X743.here hx rfl (1 : Int32) (hb hby at_389) rfl stp) ?_
          refine own_up (S' := T743.setTop (mkF m 394 La753 [(.int (1 : Int32))])) (fun t stp => XS.goto X743.here hx rfl (pc0 := 390) (pc' := 394) rfl (hb hby at_390) (by decide) (by decide) stp) ?_
          refine own_retN X743 hx hlk (t := .boolean) hret (by simp) (z' := (1 : Int32)) rfl (hb hby at_394) (by decide) (by decide) ?_
          show own_Q0 Z l0 l1 l2 u0 u1 sel h0 n0 _ T743.heap _
          exact ⟨rfl, N743⟩
      · have ihc39_609 : (mm &&& (4 : Int32)).toInt ≠ 0 := own_ine hc39_609
        refine own_up (S' := T0.setTop (mkF m 42 La608 [])) (fun t stp => XS.ifNo X0.here hx rfl (hb hby at_39) rfl (XT.i0_eq_f hc39_609) stp) ?_
        refine own_up (S' := T0.setTop (mkF m 43 La608 [(.int (1 : Int32))])) (fun t stp => XT.iconstV X0.here hx rfl (1 : Int32) (hb hby at_42) rfl stp) ?_
        refine own_up (S' := T0.setTop (mkF m 47 La608 [(.int (1 : Int32))])) (fun t stp => XS.goto X0.here hx rfl (pc0 := 43) (pc' := 47) rfl (hb hby at_43) (by decide) (by decide) stp) ?_
        obtain ⟨La759, hLa759⟩ : ∃ L : Array Slot, L = #[.val (.long l0), .second, .val (.long l1), .second, .val (.long l2), .second, .val (.long u0), .second, .val (.long u1), .second, .val (.int sel), .val (.int mm), .val (.int (1 : Int32)), .val (.int (0 : Int32)), .val (.int (1 : Int32)), .unset, .unset, .unset, .unset, .unset, .unset, .unset, .unset, .unset, .unset, .unset, .unset, .unset, .unset, .unset, .unset, .unset, .unset, .unset, .unset, .unset, .unset, .unset, .unset, .unset] := ⟨_, rfl⟩
        refine own_up (S' := T0.setTop (mkF m 49 La759 [])) (fun t stp => XS.istore X0.here hx rfl (hb hby at_47) rfl (l' := La759) (by rw [hLa608, hLa759]; rfl) stp) ?_
        refine own_up (S' := T0.setTop (mkF m 51 La759 [(.int mm)])) (fun t stp => XS.iload X0.here hx rfl (hb hby at_49) (by rw [hLa759]; rfl) stp) ?_
        refine own_up (S' := T0.setTop (mkF m 53 La759 [(.int (8 : Int32)), (.int mm)])) (fun t stp => XT.bipushV X0.here hx rfl (8 : Int32) (hb hby at_51) rfl stp) ?_
        refine own_up (S' := T0.setTop (mkF m 54 La759 [(.int (mm &&& (8 : Int32)))])) (fun t stp => XS.iand X0.here hx rfl (hb hby at_53) rfl stp) ?_
        by_cases hc54_760 : (mm &&& (8 : Int32)) = 0
        · have ihc54_760 : (mm &&& (8 : Int32)).toInt = 0 := own_ieq hc54_760
          refine own_up (S' := T0.setTop (mkF m 61 La759 [])) (fun t stp => XS.ifYes X0.here hx rfl (pc0 := 54) (pc' := 61) rfl (hb hby at_54) rfl (XT.i0_eq_t hc54_760) (by decide) (by decide) stp) ?_
          refine own_up (S' := T0.setTop (mkF m 62 La759 [(.int (0 : Int32))])) (fun t stp => XT.iconstV X0.here hx rfl (0 : Int32) (hb hby at_61) rfl stp) ?_
          obtain ⟨La761, hLa761⟩ : ∃ L : Array Slot, L = #[.val (.long l0), .second, .val (.long l1), .second, .val (.long l2), .second, .val (.long u0), .second, .val (.long u1), .second, .val (.int sel), .val (.int mm), .val (.int (1 : Int32)), .val (.int (0 : Int32)), .val (.int (1 : Int32)), .val (.int (0 : Int32)), .unset, .unset, .unset, .unset, .unset, .unset, .unset, .unset, .unset, .unset, .unset, .unset, .unset, .unset, .unset, .unset, .unset, .unset, .unset, .unset, .unset, .unset, .unset, .unset] := ⟨_, rfl⟩
          refine own_up (S' := T0.setTop (mkF m 64 La761 [])) (fun t stp => XS.istore X0.here hx rfl (hb hby at_62) rfl (l' := La761) (by rw [hLa759, hLa761]; rfl) stp) ?_
          refine own_up (S' := T0.setTop (mkF m 66 La761 [(.long u0)])) (fun t stp => XT.lload X0.here hx rfl (hb hby at_64) (by rw [hLa761]; rfl) stp) ?_
          obtain ⟨La762, hLa762⟩ : ∃ L : Array Slot, L = #[.val (.long l0), .second, .val (.long l1), .second, .val (.long l2), .second, .val (.long u0), .second, .val (.long u1), .second, .val (.int sel), .val (.int mm), .val (.int (1 : Int32)), .val (.int (0 : Int32)), .val (.int (1 : Int32)), .val (.int (0 : Int32)), .val (.long u0), .second, .unset, .unset, .unset, .unset, .unset, .unset, .unset, .unset, .unset, .unset, .unset, .unset, .unset, .unset, .unset, .unset, .unset, .unset, .unset, .unset, .unset, .unset] := ⟨_, rfl⟩
          refine own_up (S' := T0.setTop (mkF m 68 La762 [])) (fun t stp => XT.lstore X0.here hx rfl (hb hby at_66) rfl (l' := La762) (by rw [hLa761, hLa762]; rfl) stp) ?_
          refine own_up (S' := T0.setTop (mkF m 70 La762 [(.long u1)])) (fun t stp => XT.lload X0.here hx rfl (hb hby at_68) (by rw [hLa762]; rfl) stp) ?_
          obtain ⟨La763, hLa763⟩ : ∃ L : Array Slot, L = #[.val (.long l0), .second, .val (.long l1), .second, .val (.long l2), .second, .val (.long u0), .second, .val (.long u1), .second, .val (.int sel), .val (.int mm), .val (.int (1 : Int32)), .val (.int (0 : Int32)), .val (.int (1 : Int32)), .val (.int (0 : Int32)), .val (.long u0), .second, .val (.long u1), .second, .unset, .unset, .unset, .unset, .unset, .unset, .unset, .unset, .unset, .unset, .unset, .unset, .unset, .unset, .unset, .unset, .unset, .unset, .unset, .unset] := ⟨_, rfl⟩
          refine own_up (S' := T0.setTop (mkF m 72 La763 [])) (fun t stp => XT.lstore X0.here hx rfl (hb hby at_70) rfl (l' := La763) (by rw [hLa762, hLa763]; rfl) stp) ?_
          refine own_up (S' := T0.setTop (mkF m 74 La763 [(.long u0)])) (fun t stp => XT.lload X0.here hx rfl (hb hby at_72) (by rw [hLa763]; rfl) stp) ?_
          refine own_up (S' := T0.setTop (mkF m 76 La763 [(.long u1), (.long u0)])) (fun t stp => XT.lload X0.here hx rfl (hb hby at_74) (by rw [hLa763]; rfl) stp) ?_
          refine own_up (S' := T0.setTop (mkF m 77 La763 [(.long (u0 - u1))])) (fun t stp => XT.lsub X0.here hx rfl (hb hby at_76) rfl stp) ?_
          obtain ⟨v2, h_v2⟩ : ∃ z : Int64, z = (u0 - u1) := ⟨_, rfl⟩
          rw [← h_v2]
          obtain ⟨La764, hLa764⟩ : ∃ L : Array Slot, L = #[.val (.long l0), .second, .val (.long l1), .second, .val (.long l2), .second, .val (.long u0), .second, .val (.long u1), .second, .val (.int sel), .val (.int mm), .val (.int (1 : Int32)), .val (.int (0 : Int32)), .val (.int (1 : Int32)), .val (.int (0 : Int32)), .val (.long u0), .second, .val (.long u1), .second, .val (.long v2), .second, .unset, .unset, .unset, .unset, .unset, .unset, .unset, .unset, .unset, .unset, .unset, .unset, .unset, .unset, .unset, .unset, .unset, .unset] := ⟨_, rfl⟩
          refine own_up (S' := T0.setTop (mkF m 79 La764 [])) (fun t stp => XT.lstore X0.here hx rfl (hb hby at_77) rfl (l' := La764) (by rw [hLa763, hLa764]; rfl) stp) ?_
          refine own_up (S' := T0.setTop (mkF m 81 La764 [(.long u1)])) (fun t stp => XT.lload X0.here hx rfl (hb hby at_79) (by rw [hLa764]; rfl) stp) ?_
          refine own_up (S' := T0.setTop (mkF m 83 La764 [(.long l2), (.long u1)])) (fun t stp => XT.lload X0.here hx rfl (hb hby at_81) (by rw [hLa764]; rfl) stp) ?_
          refine own_up (S' := T0.setTop (mkF m 84 La764 [(.long (u1 ^^^ l2))])) (fun t stp => XT.lxor X0.here hx rfl (hb hby at_83) rfl stp) ?_
          obtain ⟨v3, h_v3⟩ : ∃ z : Int64, z = (u1 ^^^ l2) := ⟨_, rfl⟩
          rw [← h_v3]
          obtain ⟨La765, hLa765⟩ : ∃ L : Array Slot, L = #[.val (.long l0), .second, .val (.long l1), .second, .val (.long l2), .second, .val (.long u0), .second, .val (.long u1), .second, .val (.int sel), .val (.int mm), .val (.int (1 : Int32)), .val (.int (0 : Int32)), .val (.int (1 : Int32)), .val (.int (0 : Int32)), .val (.long u0), .second, .val (.long u1), .second, .val (.long v2), .second, .val (.long v3), .second, .unset, .unset, .unset, .unset, .unset, .unset, .unset, .unset, .unset, .unset, .unset, .unset, .unset, .unset, .unset, .unset] := ⟨_, rfl⟩
          refine own_up (S' := T0.setTop (mkF m 86 La765 [])) (fun t stp => XT.lstore X0.here hx rfl (hb hby at_84) rfl (l' := La765) (by rw [hLa764, hLa765]; rfl) stp) ?_
          refine own_up (S' := T0.setTop (mkF m 88 La765 [(.int (1 : Int32))])) (fun t stp => XS.iload X0.here hx rfl (hb hby at_86) (by rw [hLa765]; rfl) stp) ?_
          have hc88_766 : ¬ ((1 : Int32) = 0) := by decide
          refine own_up (S' := T0.setTop (mkF m 91 La765 [])) (fun t stp => XS.ifNo X0.here hx rfl (hb hby at_88) rfl (XT.i0_eq_f hc88_766) stp) ?_
          refine own_up (S' := T0.setTop (mkF m 92 La765 [(.int (1 : Int32))])) (fun t stp => XT.iconstV X0.here hx rfl (1 : Int32) (hb hby at_91) rfl stp) ?_
          refine own_up (S' := T0.setTop (mkF m 96 La765 [(.int (1 : Int32))])) (fun t stp => XS.goto X0.here hx rfl (pc0 := 92) (pc' := 96) rfl (hb hby at_92) (by decide) (by decide) stp) ?_
          refine own_up (S' := T0.setTop (mkF m 98 La765 [(.int (0 : Int32)), (.int (1 : Int32))])) (fun t stp => XS.iload X0.here hx rfl (hb hby at_96) (by rw [hLa765]; rfl) stp) ?_
          have hc98_767 : (0 : Int32) = 0 := by decide
          refine own_up (S' := T0.setTop (mkF m 105 La765 [(.int (1 : Int32))])) (fun t stp => XS.ifYes X0.here hx rfl (pc0 := 98) (pc' := 105) rfl (hb hby at_98) rfl (XT.i0_eq_t hc98_767) (by decide) (by decide) stp) ?_
          refine own_up (S' := T0.setTop (mkF m 106 La765 [(.int (0 : Int32)), (.int (1 : Int32))])) (fun t stp => XT.iconstV X0.here hx rfl (0 : Int32) (hb hby at_105) rfl stp) ?_
          refine own_up (S' := T0.setTop (mkF m 107 La765 [(.int ((1 : Int32) + (0 : Int32)))])) (fun t stp => XS.iadd X0.here hx rfl (hb hby at_106) rfl stp) ?_
          refine own_up (S' := T0.setTop (mkF m 109 La765 [(.int (1 : Int32)), (.int ((1 : Int32) + (0 : Int32)))])) (fun t stp => XS.iload X0.here hx rfl (hb hby at_107) (by rw [hLa765]; rfl) stp) ?_
          have hc109_768 : ¬ ((1 : Int32) = 0) := hc88_766
          refine own_up (S' := T0.setTop (mkF m 112 La765 [(.int ((1 : Int32) + (0 : Int32)))])) (fun t stp => XS.ifNo X0.here hx rfl (hb hby at_109) rfl (XT.i0_eq_f hc109_768) stp) ?_
          refine own_up (S' := T0.setTop (mkF m 113 La765 [(.int (1 : Int32)), (.int ((1 : Int32) + (0 : Int32)))])) (fun t stp => XT.iconstV X0.here hx rfl (1 : Int32) (hb hby at_112) rfl stp) ?_
          refine own_up (S' := T0.setTop (mkF m 117 La765 [(.int (1 : Int32)), (.int ((1 : Int32) + (0 : Int32)))])) (fun t stp => XS.goto X0.here hx rfl (pc0 := 113) (pc' := 117) rfl (hb hby at_113) (by decide) (by decide) stp) ?_
          refine own_up (S' := T0.setTop (mkF m 118 La765 [(.int (((1 : Int32) + (0 : Int32)) + (1 : Int32)))])) (fun t stp => XS.iadd X0.here hx rfl (hb hby at_117) rfl stp) ?_
          refine own_up (S' := T0.setTop (mkF m 120 La765 [(.int (0 : Int32)), (.int (((1 : Int32) + (0 : Int32)) + (1 : Int32)))])) (fun t stp => XS.iload X0.here hx rfl (hb hby at_118) (by rw [hLa765]; rfl) stp) ?_
          have hc120_769 : (0 : Int32) = 0 := hc98_767
          refine own_up (S' := T0.setTop (mkF m 127 La765 [(.int (((1 : Int32) + (0 : Int32)) + (1 : Int32)))])) (fun t stp => XS.ifYes X0.here hx rfl (pc0 := 120) (pc' := 127) rfl (hb hby at_120) rfl (XT.i0_eq_t hc120_769) (by decide) (by decide) stp) ?_
          refine own_up (S' := T0.setTop (mkF m 128 La765 [(.int (0 : Int32)), (.int (((1 : Int32) + (0 : Int32)) + (1 : Int32)))])) (fun t stp => XT.iconstV X0.here hx rfl (0 : Int32) (hb hby at_127) rfl stp) ?_
          refine own_up (S' := T0.setTop (mkF m 129 La765 [(.int ((((1 : Int32) + (0 : Int32)) + (1 : Int32)) + (0 : Int32)))])) (fun t stp => XS.iadd X0.here hx rfl (hb hby at_128) rfl stp) ?_
          show own_Ends p e below s (own_Q0 Z l0 l1 l2 u0 u1 sel h0 n0) room_1.cells room_1.slots (T0.setTop (mkF m 129 La765 [(.int (2 : Int32))]))
          obtain ⟨La770, hLa770⟩ : ∃ L : Array Slot, L = #[.val (.long l0), .second, .val (.long l1), .second, .val (.long l2), .second, .val (.long u0), .second, .val (.long u1), .second, .val (.int sel), .val (.int mm), .val (.int (1 : Int32)), .val (.int (0 : Int32)), .val (.int (1 : Int32)), .val (.int (0 : Int32)), .val (.long u0), .second, .val (.long u1), .second, .val (.long v2), .second, .val (.long v3), .second, .val (.int (2 : Int32)), .unset, .unset, .unset, .unset, .unset, .unset, .unset, .unset, .unset, .unset, .unset, .unset, .unset, .unset, .unset] := ⟨_, rfl⟩
          refine own_up (S' := T0.setTop (mkF m 131 La770 [])) (fun t stp => XS.istore X0.here hx rfl (hb hby at_129) rfl (l' := La770) (by rw [hLa765, hLa770]; rfl) stp) ?_
          refine own_up (S' := T0.setTop (mkF m 133 La770 [(.int (2 : Int32))])) (fun t stp => XS.iload X0.here hx rfl (hb hby at_131) (by rw [hLa770]; rfl) stp) ?_
          refine own_newa X0 hx hZ (ty := .int) rfl (hw _ (List.mem_of_getElem? (i := 0) rfl)) e0 2 (hb hby at_133) (rfl) 2 (by decide) (by decide) (by decide) (by decide) rfl rfl ?_
          intro T771 h771 ad771 hb771 X771 e771 E771 A771
          have g_ad771 : n0 ≤ ad771 := Nat.le_trans Z0 (Nat.le_of_eq hb771.symm)
          have Zn772 := Nat.le_trans Z0 E771.1
          have Al771 : own_Al Z h771 ad771 .int [(.int (0 : Int32)), (.int (0 : Int32))] := A771
          show own_Ends p e below s (own_Q0 Z l0 l1 l2 u0 u1 sel h0 n0) room_1.cells room_1.slots (T771.setTop (mkF m 135 La770 [(.ref ad771)]))
          obtain ⟨La774, hLa774⟩ : ∃ L : Array Slot, L = #[.val (.long l0), .second, .val (.long l1), .second, .val (.long l2), .second, .val (.long u0), .second, .val (.long u1), .second, .val (.int sel), .val (.int mm), .val (.int (1 : Int32)), .val (.int (0 : Int32)), .val (.int (1 : Int32)), .val (.int (0 : Int32)), .val (.long u0), .second, .val (.long u1), .second, .val (.long v2), .second, .val (.long v3), .second, .val (.int (2 : Int32)), .val (.ref ad771), .unset, .unset, .unset, .unset, .unset, .unset, .unset, .unset, .unset, .unset, .unset, .unset, .unset, .unset] := ⟨_, rfl⟩
          refine own_up (S' := T771.setTop (mkF m 137 La774 [])) (fun t stp => XS.astore X771.here hx rfl (hb hby at_135) rfl rfl (l' := La774) (by rw [hLa770, hLa774]; rfl) stp) ?_
          refine own_up (S' := T771.setTop (mkF m 139 La774 [(.int (2 : Int32))])) (fun t stp => XS.iload X771.here hx rfl (hb hby at_137) (by rw [hLa774]; rfl) stp) ?_
          refine own_newa X771 hx hZ (ty := .long) rfl (hw _ (List.mem_of_getElem? (i := 1) rfl)) e771 2 (hb hby at_139) (rfl) 2 (by decide) (by decide) (by decide) (by decide) rfl rfl ?_
          intro T775 h775 ad775 hb775 X775 e775 E775 A775
          have ne775_ad771_ad775 : ad771 ≠ ad775 := Nat.ne_of_lt (Nat.lt_of_lt_of_eq (own_Al_lt Al771) hb775.symm)
          have g_ad775 : n0 ≤ ad775 := Nat.le_trans Zn772 (Nat.le_of_eq hb775.symm)
          have Zn776 := Nat.le_trans Zn772 E775.1
          have Al771_777 := own_Al_ext E775 Al771
          have Al775 : own_Al Z h775 ad775 .long [(.long (0 : Int64)), (.long (0 : Int64))] := A775
          show own_Ends p e below s (own_Q0 Z l0 l1 l2 u0 u1 sel h0 n0) room_1.cells room_1.slots (T775.setTop (mkF m 141 La774 [(.ref ad775)]))
          obtain ⟨La778, hLa778⟩ : ∃ L : Array Slot, L = #[.val (.long l0), .second, .val (.long l1), .second, .val (.long l2), .second, .val (.long u0), .second, .val (.long u1), .second, .val (.int sel), .val (.int mm), .val (.int (1 : Int32)), .val (.int (0 : Int32)), .val (.int (1 : Int32)), .val (.int (0 : Int32)), .val (.long u0), .second, .val (.long u1), .second, .val (.long v2), .second, .val (.long v3), .second, .val (.int (2 : Int32)), .val (.ref ad771), .val (.ref ad775), .unset, .unset, .unset, .unset, .unset, .unset, .unset, .unset, .unset, .unset, .unset, .unset, .unset] := ⟨_, rfl⟩
          refine own_up (S' := T775.setTop (mkF m 143 La778 [])) (fun t stp => XS.astore X775.here hx rfl (hb hby at_141) rfl rfl (l' := La778) (by rw [hLa774, hLa778]; rfl) stp) ?_
          refine own_up (S' := T775.setTop (mkF m 144 La778 [(.int (0 : Int32))])) (fun t stp => XT.iconstV X775.here hx rfl (0 : Int32) (hb hby at_143) rfl stp) ?_
          obtain ⟨La779, hLa779⟩ : ∃ L : Array Slot, L = #[.val (.long l0), .second, .val (.long l1), .second, .val (.long l2), .second, .val (.long u0), .second, .val (.long u1), .second, .val (.int sel), .val (.int mm), .val (.int (1 : Int32)), .val (.int (0 : Int32)), .val (.int (1 : Int32)), .val (.int (0 : Int32)), .val (.long u0), .second, .val (.long u1), .second, .val (.long v2), .second, .val (.long v3), .second, .val (.int (2 : Int32)), .val (.ref ad771), .val (.ref ad775), .val (.int (0 : Int32)), .unset, .unset, .unset, .unset, .unset, .unset, .unset, .unset, .unset, .unset, .unset, .unset] := ⟨_, rfl⟩
          refine own_up (S' := T775.setTop (mkF m 146 La779 [])) (fun t stp => XS.istore X775.here hx rfl (hb hby at_144) rfl (l' := La779) (by rw [hLa778, hLa779]; rfl) stp) ?_
          refine own_up (S' := T775.setTop (mkF m 148 La779 [(.int (1 : Int32))])) (fun t stp => XS.iload X775.here hx rfl (hb hby at_146) (by rw [hLa779]; rfl) stp) ?_
          have hc148_780 : ¬ ((1 : Int32) = 0) := hc88_766
          refine own_up (S' := T775.setTop (mkF m 151 La779 [])) (fun t stp => XS.ifNo X775.here hx rfl (hb hby at_148) rfl (XT.i0_eq_f hc148_780) stp) ?_
          refine own_up (S' := T775.setTop (mkF m 153 La779 [(.ref ad771)])) (fun t stp => XS.aload X775.here hx rfl (hb hby at_151) (by rw [hLa779]; rfl) rfl stp) ?_
          refine own_up (S' := T775.setTop (mkF m 155 La779 [(.int (0 : Int32)), (.ref ad771)])) (fun t stp => XS.iload X775.here hx rfl (hb hby at_153) (by rw [hLa779]; rfl) stp) ?_
          refine own_up (S' := T775.setTop (mkF m 156 La779 [(.int (0 : Int32)), (.int (0 : Int32)), (.ref ad771)])) (fun t stp => XT.iconstV X775.here hx rfl (0 : Int32) (hb hby at_155) rfl stp) ?_
          refine own_sti X775 hx hZ e775 Al771_777 0 (hb hby at_156) (rfl) (Nat.le_of_ble_eq_true rfl) rfl rfl (g' := (mkF m 157 La779 [])) rfl ?_
          intro T781 h781 X781 e781 W781 B781
          have Zn782 := Nat.le_trans Zn776 (Nat.le_of_eq W781.size.symm)
          have Al775_783 := own_Al_oth W781 Al775 (Ne.symm ne775_ad771_ad775)
          have N781 := Fr.snoc X781 N0 g_ad771
          have Al781 : own_Al Z h781 ad771 .int [(.int (0 : Int32)), (.int (0 : Int32))] := B781
          refine own_up (S' := T781.setTop (mkF m 159 La779 [(.ref ad775)])) (fun t stp => XS.aload X781.here hx rfl (hb hby at_157) (by rw [hLa779]; rfl) rfl stp) ?_
          refine own_up (S' := T781.setTop (mkF m 161 La779 [(.int (0 : Int32)), (.ref ad775)])) (fun t stp => XS.iload X781.here hx rfl (hb hby at_159) (by rw [hLa779]; rfl) stp) ?_
          refine own_up (S' := T781.setTop (mkF m 163 La779 [(.long u0), (.int (0 : Int32)), (.ref ad775)])) (fun t stp => XT.lload X781.here hx rfl (hb hby at_161) (by rw [hLa779]; rfl) stp) ?_
          refine own_stj X781 hx hZ e781 Al775_783 0 (hb hby at_163) (rfl) (Nat.le_of_ble_eq_true rfl) rfl rfl (g' := (mkF m 164 La779 [])) rfl ?_
          intro T784 h784 X784 e784 W784 B784
          have Zn785 := Nat.le_trans Zn782 (Nat.le_of_eq W784.size.symm)
          have Al781_786 := own_Al_oth W784 Al781 ne775_ad771_ad775
          have N784 := Fr.snoc X784 N781 g_ad775
          have Al784 : own_Al Z h784 ad775 .long [(.long u0), (.long (0 : Int64))] := B784
          obtain ⟨La787, hLa787⟩ : ∃ L : Array Slot, L = #[.val (.long l0), .second, .val (.long l1), .second, .val (.long l2), .second, .val (.long u0), .second, .val (.long u1), .second, .val (.int sel), .val (.int mm), .val (.int (1 : Int32)), .val (.int (0 : Int32)), .val (.int (1 : Int32)), .val (.int (0 : Int32)), .val (.long u0), .second, .val (.long u1), .second, .val (.long v2), .second, .val (.long v3), .second, .val (.int (2 : Int32)), .val (.ref ad771), .val (.ref ad775), .val (.int (1 : Int32)), .unset, .unset, .unset, .unset, .unset, .unset, .unset, .unset, .unset, .unset, .unset, .unset] := ⟨_, rfl⟩
          refine own_up (S' := T784.setTop (mkF m 167 La787 [])) (fun t stp => XT.iincV X784.here hx rfl (1 : Int32) (hb hby at_164) rfl (by rw [hLa779]; rfl) (l' := La787) (by rw [hLa779, hLa787]; rfl) stp) ?_
          refine own_up (S' := T784.setTop (mkF m 169 La787 [(.int (0 : Int32))])) (fun t stp => XS.iload X784.here hx rfl (hb hby at_167) (by rw [hLa787]; rfl) stp) ?_
          have hc169_788 : (0 : Int32) = 0 := hc98_767
          refine own_up (S' := T784.setTop (mkF m 188 La787 [])) (fun t stp => XS.ifYes X784.here hx rfl (pc0 := 169) (pc' := 188) rfl (hb hby at_169) rfl (XT.i0_eq_t hc169_788) (by decide) (by decide) stp) ?_
          refine own_up (S' := T784.setTop (mkF m 190 La787 [(.int (1 : Int32))])) (fun t stp => XS.iload X784.here hx rfl (hb hby at_188) (by rw [hLa787]; rfl) stp) ?_
          have hc190_789 : ¬ ((1 : Int32) = 0) := hc88_766
          refine own_up (S' := T784.setTop (mkF m 193 La787 [])) (fun t stp => XS.ifNo X784.here hx rfl (hb hby at_190) rfl (XT.i0_eq_f hc190_789) stp) ?_
          refine own_up (S' := T784.setTop (mkF m 195 La787 [(.ref ad771)])) (fun t stp => XS.aload X784.here hx rfl (hb hby at_193) (by rw [hLa787]; rfl) rfl stp) ?_
          refine own_up (S' := T784.setTop (mkF m 197 La787 [(.int (1 : Int32)), (.ref ad771)])) (fun t stp => XS.iload X784.here hx rfl (hb hby at_195) (by rw [hLa787]; rfl) stp) ?_
          refine own_up (S' := T784.setTop (mkF m 198 La787 [(.int (2 : Int32)), (.int (1 : Int32)), (.ref ad771)])) (fun t stp => XT.iconstV X784.here hx rfl (2 : Int32) (hb hby at_197) rfl stp) ?_
          refine own_sti X784 hx hZ e784 Al781_786 1 (hb hby at_198) (rfl) (Nat.le_of_ble_eq_true rfl) rfl rfl (g' := (mkF m 199 La787 [])) rfl ?_
          intro T790 h790 X790 e790 W790 B790
          have Zn791 := Nat.le_trans Zn785 (Nat.le_of_eq W790.size.symm)
          have Al784_792 := own_Al_oth W790 Al784 (Ne.symm ne775_ad771_ad775)
          have N790 := Fr.snoc X790 N784 g_ad771
          have Al790 : own_Al Z h790 ad771 .int [(.int (0 : Int32)), (.int (2 : Int32))] := B790
          refine own_up (S' := T790.setTop (mkF m 201 La787 [(.ref ad775)])) (fun t stp => XS.aload X790.here hx rfl (hb hby at_199) (by rw [hLa787]; rfl) rfl stp) ?_
          refine own_up (S' := T790.setTop (mkF m 203 La787 [(.int (1 : Int32)), (.ref ad775)])) (fun t stp => XS.iload X790.here hx rfl (hb hby at_201) (by rw [hLa787]; rfl) stp) ?_
          refine own_up (S' := T790.setTop (mkF m 205 La787 [(.long v2), (.int (1 : Int32)), (.ref ad775)])) (fun t stp => XT.lload X790.here hx rfl (hb hby at_203) (by rw [hLa787]; rfl) stp) ?_
          refine own_stj X790 hx hZ e790 Al784_792 1 (hb hby at_205) (rfl) (Nat.le_of_ble_eq_true rfl) rfl rfl (g' := (mkF m 206 La787 [])) rfl ?_
          intro T793 h793 X793 e793 W793 B793
          have Zn794 := Nat.le_trans Zn791 (Nat.le_of_eq W793.size.symm)
          have Al790_795 := own_Al_oth W793 Al790 ne775_ad771_ad775
          have N793 := Fr.snoc X793 N790 g_ad775
          have Al793 : own_Al Z h793 ad775 .long [(.long u0), (.long v2)] := B793
          obtain ⟨La796, hLa796⟩ : ∃ L : Array Slot, L = #[.val (.long l0), .second, .val (.long l1), .second, .val (.long l2), .second, .val (.long u0), .second, .val (.long u1), .second, .val (.int sel), .val (.int mm), .val (.int (1 : Int32)), .val (.int (0 : Int32)), .val (.int (1 : Int32)), .val (.int (0 : Int32)), .val (.long u0), .second, .val (.long u1), .second, .val (.long v2), .second, .val (.long v3), .second, .val (.int (2 : Int32)), .val (.ref ad771), .val (.ref ad775), .val (.int (2 : Int32)), .unset, .unset, .unset, .unset, .unset, .unset, .unset, .unset, .unset, .unset, .unset, .unset] := ⟨_, rfl⟩
          refine own_up (S' := T793.setTop (mkF m 209 La796 [])) (fun t stp => XT.iincV X793.here hx rfl (1 : Int32) (hb hby at_206) rfl (by rw [hLa787]; rfl) (l' := La796) (by rw [hLa787, hLa796]; rfl) stp) ?_
          refine own_up (S' := T793.setTop (mkF m 211 La796 [(.int (0 : Int32))])) (fun t stp => XS.iload X793.here hx rfl (hb hby at_209) (by rw [hLa796]; rfl) stp) ?_
          have hc211_797 : (0 : Int32) = 0 := hc98_767
          refine own_up (S' := T793.setTop (mkF m 230 La796 [])) (fun t stp => XS.ifYes X793.here hx rfl (pc0 := 211) (pc' := 230) rfl (hb hby at_211) rfl (XT.i0_eq_t hc211_797) (by decide) (by decide) stp) ?_
          refine own_up (S' := T793.setTop (mkF m 231 La796 [(.long l0)])) (fun t stp => XT.lloadN X793.here hx rfl (hb hby at_230) (by rw [hLa796]; rfl) stp) ?_
          refine own_up (S' := T793.setTop (mkF m 232 La796 [(.long l1), (.long l0)])) (fun t stp => XT.lloadN X793.here hx rfl (hb hby at_231) (by rw [hLa796]; rfl) stp) ?_
          refine own_up (S' := T793.setTop (mkF m 233 La796 [(.long (l0 ^^^ l1))])) (fun t stp => XT.lxor X793.here hx rfl (hb hby at_232) rfl stp) ?_
          obtain ⟨l3, h_l3⟩ : ∃ z : Int64, z = (l0 ^^^ l1) := ⟨_, rfl⟩
          rw [← h_l3]
          obtain ⟨La798, hLa798⟩ : ∃ L : Array Slot, L = #[.val (.long l0), .second, .val (.long l1), .second, .val (.long l2), .second, .val (.long u0), .second, .val (.long u1), .second, .val (.int sel), .val (.int mm), .val (.int (1 : Int32)), .val (.int (0 : Int32)), .val (.int (1 : Int32)), .val (.int (0 : Int32)), .val (.long u0), .second, .val (.long u1), .second, .val (.long v2), .second, .val (.long v3), .second, .val (.int (2 : Int32)), .val (.ref ad771), .val (.ref ad775), .val (.int (2 : Int32)), .val (.long l3), .second, .unset, .unset, .unset, .unset, .unset, .unset, .unset, .unset, .unset, .unset] := ⟨_, rfl⟩
          refine own_up (S' := T793.setTop (mkF m 235 La798 [])) (fun t stp => XT.lstore X793.here hx rfl (hb hby at_233) rfl (l' := La798) (by rw [hLa796, hLa798]; rfl) stp) ?_
          refine own_up (S' := T793.setTop (mkF m 236 La798 [(.int (4 : Int32))])) (fun t stp => XT.iconstV X793.here hx rfl (4 : Int32) (hb hby at_235) rfl stp) ?_
          refine own_newa X793 hx hZ (ty := .long) rfl (hw _ (List.mem_of_getElem? (i := 1) rfl)) e793 4 (hb hby at_236) (rfl) 4 (by decide) (by decide) (by decide) (by decide) rfl rfl ?_
          intro T799 h799 ad799 hb799 X799 e799 E799 A799
          have ne799_ad771_ad799 : ad771 ≠ ad799 := Nat.ne_of_lt (Nat.lt_of_lt_of_eq (own_Al_lt Al790_795) hb799.symm)
          have ne799_ad775_ad799 : ad775 ≠ ad799 := Nat.ne_of_lt (Nat.lt_of_lt_of_eq (own_Al_lt Al793) hb799.symm)
          have g_ad799 : n0 ≤ ad799 := Nat.le_trans Zn794 (Nat.le_of_eq hb799.symm)
          have Zn800 := Nat.le_trans Zn794 E799.1
          have Al790_801 := own_Al_ext E799 Al790_795
          have Al793_801 := own_Al_ext E799 Al793
          have Al799 : own_Al Z h799 ad799 .long [(.long (0 : Int64)), (.long (0 : Int64)), (.long (0 : Int64)), (.long (0 : Int64))] := A799
          show own_Ends p e below s (own_Q0 Z l0 l1 l2 u0 u1 sel h0 n0) room_1.cells room_1.slots (T799.setTop (mkF m 238 La798 [(.ref ad799)]))
          refine own_up (S' := T799.setTop (mkF m 239 La798 [(.ref ad799), (.ref ad799)])) (fun t stp => XS.dup X799.here hx rfl (hb hby at_238) rfl rfl stp) ?_
          refine own_up (S' := T799.setTop (mkF m 240 La798 [(.int (0 : Int32)), (.ref ad799), (.ref ad799)])) (fun t stp => XT.iconstV X799.here hx rfl (0 : Int32) (hb hby at_239) rfl stp) ?_
          refine own_up (S' := T799.setTop (mkF m 241 La798 [(.long l0), (.int (0 : Int32)), (.ref ad799), (.ref ad799)])) (fun t stp => XT.lloadN X799.here hx rfl (hb hby at_240) (by rw [hLa798]; rfl) stp) ?_
          refine own_stj X799 hx hZ e799 Al799 0 (hb hby at_241) (rfl) (Nat.le_of_ble_eq_true rfl) rfl rfl (g' := (mkF m 242 La798 [(.ref ad799)])) rfl ?_
          intro T802 h802 X802 e802 W802 B802
          have Zn803 := Nat.le_trans Zn800 (Nat.le_of_eq W802.size.symm)
          have Al790_804 := own_Al_oth W802 Al790_801 ne799_ad771_ad799
          have Al793_804 := own_Al_oth W802 Al793_801 ne799_ad775_ad799
          have N802 := Fr.snoc X802 N793 g_ad799
          have Al802 : own_Al Z h802 ad799 .long [(.long l0), (.long (0 : Int64)), (.long (0 : Int64)), (.long (0 : Int64))] := B802
          refine own_up (S' := T802.setTop (mkF m 243 La798 [(.ref ad799), (.ref ad799)])) (fun t stp => XS.dup X802.here hx rfl (hb hby at_242) rfl rfl stp) ?_
          refine own_up (S' := T802.setTop (mkF m 244 La798 [(.int (1 : Int32)), (.ref ad799), (.ref ad799)])) (fun t stp => XT.iconstV X802.here hx rfl (1 : Int32) (hb hby at_243) rfl stp) ?_
          refine own_up (S' := T802.setTop (mkF m 245 La798 [(.long l1), (.int (1 : Int32)), (.ref ad799), (.ref ad799)])) (fun t stp => XT.lloadN X802.here hx rfl (hb hby at_244) (by rw [hLa798]; rfl) stp) ?_
          refine own_stj X802 hx hZ e802 Al802 1 (hb hby at_245) (rfl) (Nat.le_of_ble_eq_true rfl) rfl rfl (g' := (mkF m 246 La798 [(.ref ad799)])) rfl ?_
          intro T805 h805 X805 e805 W805 B805
          have Zn806 := Nat.le_trans Zn803 (Nat.le_of_eq W805.size.symm)
          have Al790_807 := own_Al_oth W805 Al790_804 ne799_ad771_ad799
          have Al793_807 := own_Al_oth W805 Al793_804 ne799_ad775_ad799
          have N805 := Fr.snoc X805 N802 g_ad799
          have Al805 : own_Al Z h805 ad799 .long [(.long l0), (.long l1), (.long (0 : Int64)), (.long (0 : Int64))] := B805
          refine own_up (S' := T805.setTop (mkF m 247 La798 [(.ref ad799), (.ref ad799)])) (fun t stp => XS.dup X805.here hx rfl (hb hby at_246) rfl rfl stp) ?_
          refine own_up (S' := T805.setTop (mkF m 248 La798 [(.int (2 : Int32)), (.ref ad799), (.ref ad799)])) (fun t stp => XT.iconstV X805.here hx rfl (2 : Int32) (hb hby at_247) rfl stp) ?_
          refine own_up (S' := T805.setTop (mkF m 250 La798 [(.long l2), (.int (2 : Int32)), (.ref ad799), (.ref ad799)])) (fun t stp => XT.lload X805.here hx rfl (hb hby at_248) (by rw [hLa798]; rfl) stp) ?_
          refine own_stj X805 hx hZ e805 Al805 2 (hb hby at_250) (rfl) (Nat.le_of_ble_eq_true rfl) rfl rfl (g' := (mkF m 251 La798 [(.ref ad799)])) rfl ?_
          intro T808 h808 X808 e808 W808 B808
          have Zn809 := Nat.le_trans Zn806 (Nat.le_of_eq W808.size.symm)
          have Al790_810 := own_Al_oth W808 Al790_807 ne799_ad771_ad799
          have Al793_810 := own_Al_oth W808 Al793_807 ne799_ad775_ad799
          have N808 := Fr.snoc X808 N805 g_ad799
          have Al808 : own_Al Z h808 ad799 .long [(.long l0), (.long l1), (.long l2), (.long (0 : Int64))] := B808
          refine own_up (S' := T808.setTop (mkF m 252 La798 [(.ref ad799), (.ref ad799)])) (fun t stp => XS.dup X808.here hx rfl (hb hby at_251) rfl rfl stp) ?_
          refine own_up (S' := T808.setTop (mkF m 253 La798 [(.int (3 : Int32)), (.ref ad799), (.ref ad799)])) (fun t stp => XT.iconstV X808.here hx rfl (3 : Int32) (hb hby at_252) rfl stp) ?_
          refine own_up (S' := T808.setTop (mkF m 255 La798 [(.long l3), (.int (3 : Int32)), (.ref ad799), (.ref ad799)])) (fun t stp => XT.lload X808.here hx rfl (hb hby at_253) (by rw [hLa798]; rfl) stp) ?_
          refine own_stj X808 hx hZ e808 Al808 3 (hb hby at_255) (rfl) (Nat.le_of_ble_eq_true rfl) rfl rfl (g' := (mkF m 256 La798 [(.ref ad799)])) rfl ?_
          intro T811 h811 X811 e811 W811 B811
          have Zn812 := Nat.le_trans Zn809 (Nat.le_of_eq W811.size.symm)
          have Al790_813 := own_Al_oth W811 Al790_810 ne799_ad771_ad799
          have Al793_813 := own_Al_oth W811 Al793_810 ne799_ad775_ad799
          have N811 := Fr.snoc X811 N808 g_ad799
          have Al811 : own_Al Z h811 ad799 .long [(.long l0), (.long l1), (.long l2), (.long l3)] := B811
          obtain ⟨La814, hLa814⟩ : ∃ L : Array Slot, L = #[.val (.long l0), .second, .val (.long l1), .second, .val (.long l2), .second, .val (.long u0), .second, .val (.long u1), .second, .val (.int sel), .val (.int mm), .val (.int (1 : Int32)), .val (.int (0 : Int32)), .val (.int (1 : Int32)), .val (.int (0 : Int32)), .val (.long u0), .second, .val (.long u1), .second, .val (.long v2), .second, .val (.long v3), .second, .val (.int (2 : Int32)), .val (.ref ad771), .val (.ref ad775), .val (.int (2 : Int32)), .val (.long l3), .second, .val (.ref ad799), .unset, .unset, .unset, .unset, .unset, .unset, .unset, .unset, .unset] := ⟨_, rfl⟩
          refine own_up (S' := T811.setTop (mkF m 258 La814 [])) (fun t stp => XS.astore X811.here hx rfl (hb hby at_256) rfl rfl (l' := La814) (by rw [hLa798, hLa814]; rfl) stp) ?_
          refine own_new X811 hx hZ hown (hw _ (List.mem_of_getElem? (i := 2) rfl)) (hw _ (List.mem_of_getElem? (i := 3) rfl)) (hw _ (List.mem_of_getElem? (i := 4) rfl)) e811 rfl (hb hby at_258) (by decide) (by decide) ?_
          intro T815 h815 ob hb815 X815 e815 E815 A815 D815
          have ne815_ad771_ob : ad771 ≠ ob := Nat.ne_of_lt (Nat.lt_of_lt_of_eq (own_Al_lt Al790_813) hb815.symm)
          have ne815_ad775_ob : ad775 ≠ ob := Nat.ne_of_lt (Nat.lt_of_lt_of_eq (own_Al_lt Al793_813) hb815.symm)
          have ne815_ad799_ob : ad799 ≠ ob := Nat.ne_of_lt (Nat.lt_of_lt_of_eq (own_Al_lt Al811) hb815.symm)
          have g_ob : n0 ≤ ob := Nat.le_trans Zn812 (Nat.le_of_eq hb815.symm)
          have Zn816 := Nat.le_trans Zn812 E815.1
          have Al790_817 := own_Al_ext E815 Al790_813
          have Al793_817 := own_Al_ext E815 Al793_813
          have Al811_817 := own_Al_ext E815 Al811
          have Fresources_ob : Fld Z h815 ob "com/example/outcry/outcry/combinatorial/Bundle" "resources" "[I" .null := D815 (Or.inr (hw _ (List.mem_of_getElem? (i := 17) rfl))) (ty := (.array .int)) (by decide)
          have Funits_ob : Fld Z h815 ob "com/example/outcry/outcry/combinatorial/Bundle" "units" "[J" .null := D815 (Or.inr (hw _ (List.mem_of_getElem? (i := 19) rfl))) (ty := (.array .long)) (by decide)
          show own_Ends p e below s (own_Q0 Z l0 l1 l2 u0 u1 sel h0 n0) room_1.cells room_1.slots (T815.setTop (mkF m 261 La814 [(.ref ob)]))
          refine own_up (S' := T815.setTop (mkF m 262 La814 [(.ref ob), (.ref ob)])) (fun t stp => XS.dup X815.here hx rfl (hb hby at_261) rfl rfl stp) ?_
          refine own_up (S' := T815.setTop (mkF m 264 La814 [(.ref ad771), (.ref ob), (.ref ob)])) (fun t stp => XS.aload X815.here hx rfl (hb hby at_262) (by rw [hLa814]; rfl) rfl stp) ?_
          refine own_up (S' := T815.setTop (mkF m 266 La814 [(.ref ad775), (.ref ad771), (.ref ob), (.ref ob)])) (fun t stp => XS.aload X815.here hx rfl (hb hby at_264) (by rw [hLa814]; rfl) rfl stp) ?_
          refine own_callI X815 hx hZ rfl hown (hw _ (List.mem_of_getElem? (i := 5) rfl)) (hw _ (List.mem_of_getElem? (i := 6) rfl)) (hw _ (List.mem_of_getElem? (i := 4) rfl)) (hw _ (List.mem_of_getElem? (i := 7) rfl)) (by decide) e815 (rm2 l Z a0 hw [] ob ad771 ad775 h815 n0 Zn816 Fresources_ob Funits_ob A815 g_ob) 1 ob [(.ref ad771), (.ref ad775)] [(.ref ob)] (hb hby at_266) (lenOf own_pd1 rfl) (by decide) (by decide) (by decide) (by decide) rfl (by rw [hml, hLa814]; rfl) rfl (by show 2 * 0 + _ ≤ _; exact Nat.le_of_eq rfl) rfl ?_
          intro T818 L818 r818 X818 q818
          obtain ⟨rfl, M818, K818, G818a_818, G818b_818⟩ := q818
          have N818 := Fr.app N811 M818
          have Zn819 := Nat.le_trans Zn816 K818.1
          have Al790_820 := own_Al_keep K818 Al790_817 (ninS ne815_ad771_ob nin0)
          have Al793_820 := own_Al_keep K818 Al793_817 (ninS ne815_ad775_ob nin0)
          have Al811_820 := own_Al_keep K818 Al811_817 (ninS ne815_ad799_ob nin0)
          have A815_820 := A815.keep K818
          show own_Ends p e below s (own_Q0 Z l0 l1 l2 u0 u1 sel h0 n0) room_1.cells room_1.slots (T818.setTop (mkF m 269 La814 [(.ref ob)]))
          obtain ⟨La821, hLa821⟩ : ∃ L : Array Slot, L = #[.val (.long l0), .second, .val (.long l1), .second, .val (.long l2), .second, .val (.long u0), .second, .val (.long u1), .second, .val (.int sel), .val (.int mm), .val (.int (1 : Int32)), .val (.int (0 : Int32)), .val (.int (1 : Int32)), .val (.int (0 : Int32)), .val (.long u0), .second, .val (.long u1), .second, .val (.long v2), .second, .val (.long v3), .second, .val (.int (2 : Int32)), .val (.ref ad771), .val (.ref ad775), .val (.int (2 : Int32)), .val (.long l3), .second, .val (.ref ad799), .val (.ref ob), .unset, .unset, .unset, .unset, .unset, .unset, .unset, .unset] := ⟨_, rfl⟩
          refine own_up (S' := T818.setTop (mkF m 271 La821 [])) (fun t stp => XS.astore X818.here hx rfl (hb hby at_269) rfl rfl (l' := La821) (by rw [hLa814, hLa821]; rfl) stp) ?_
          refine own_up (S' := T818.setTop (mkF m 273 La821 [(.ref ob)])) (fun t stp => XS.aload X818.here hx rfl (hb hby at_271) (by rw [hLa821]; rfl) rfl stp) ?_
          refine own_up (S' := T818.setTop (mkF m 275 La821 [(.ref ad799), (.ref ob)])) (fun t stp => XS.aload X818.here hx rfl (hb hby at_273) (by rw [hLa821]; rfl) rfl stp) ?_
          refine own_callV X818 hx hZ hown (hw _ (List.mem_of_getElem? (i := 20) rfl)) (hw _ (List.mem_of_getElem? (i := 21) rfl)) (hw _ (List.mem_of_getElem? (i := 23) rfl)) (hw _ (List.mem_of_getElem? (i := 22) rfl)) (hw _ (List.mem_of_getElem? (i := 4) rfl)) (hw _ (List.mem_of_getElem? (i := 24) rfl)) (by decide) rfl (rm12 l Z a0 hw [] ob ad799 ad771 ad775 [(.long l0), (.long l1), (.long l2), (.long l3)] (0 : Int32) u0 (0) l0 (2 : Int32) v2 (2) l2 T818.heap n0 Zn819 G818a_818 G818b_818 Al790_820 Al793_820 Al811_820 g_ad799 ne799_ad771_ad799 ne799_ad775_ad799 (Ne.symm ne815_ad799_ob) (rfl) (rfl) (rfl) (rfl)) 0 A815_820 [(.ref ad799)] [] (hb hby at_275) (lenOf own_pd2 rfl) (by decide) (by decide) (by decide) (by decide) rfl (by rw [hml, hLa821]; rfl) rfl (by show 2 * 0 + _ ≤ _; exact Nat.le_of_eq rfl) rfl ?_
          intro T822 L822 r822 X822 q822
          obtain ⟨rfl, M822, K822, G822a_822⟩ := q822
          have N822 := Fr.app N818 M822
          have Zn823 := Nat.le_trans Zn819 K822.1
          have Al790_824 := own_Al_keep K822 Al790_820 (ninS ne799_ad771_ad799 nin0)
          have Al793_824 := own_Al_keep K822 Al793_820 (ninS ne799_ad775_ad799 nin0)
          have A815_824 := A815_820.keep K822
          have G818a_824 := G818a_818.keep K822 (ninS (Ne.symm ne815_ad799_ob) nin0)
          have G818b_824 := G818b_818.keep K822 (ninS (Ne.symm ne815_ad799_ob) nin0)
          show own_Ends p e below s (own_Q0 Z l0 l1 l2 u0 u1 sel h0 n0) room_1.cells room_1.slots (T822.setTop (mkF m 278 La821 []))
          have Tk822 : own_Al Z T822.heap ad799 .long [(.long (l0 - u0)), (.long l1), (.long (l2 - v2)), (.long l3)] := G822a_822
          refine own_up (S' := T822.setTop (mkF m 280 La821 [(.int (1 : Int32))])) (fun t stp => XS.iload X822.here hx rfl (hb hby at_278) (by rw [hLa821]; rfl) stp) ?_
          have hc280_825 : ¬ ((1 : Int32) = 0) := hc88_766
          refine own_up (S' := T822.setTop (mkF m 283 La821 [])) (fun t stp => XS.ifNo X822.here hx rfl (hb hby at_280) rfl (XT.i0_eq_f hc280_825) stp) ?_
          refine own_up (S' := T822.setTop (mkF m 284 La821 [(.long l0)])) (fun t stp => XT.lloadN X822.here hx rfl (hb hby at_283) (by rw [hLa821]; rfl) stp) ?_
          refine own_up (S' := T822.setTop (mkF m 286 La821 [(.long u0), (.long l0)])) (fun t stp => XT.lload X822.here hx rfl (hb hby at_284) (by rw [hLa821]; rfl) stp) ?_
          refine own_up (S' := T822.setTop (mkF m 287 La821 [(.long (l0 - u0))])) (fun t stp => XT.lsub X822.here hx rfl (hb hby at_286) rfl stp) ?_
          refine own_up (S' := T822.setTop (mkF m 291 La821 [(.long (l0 - u0))])) (fun t stp => XS.goto X822.here hx rfl (pc0 := 287) (pc' := 291) rfl (hb hby at_287) (by decide) (by decide) stp) ?_
          obtain ⟨e0q, h_e0q⟩ : ∃ z : Int64, z = (l0 - u0) := ⟨_, rfl⟩
          rw [← h_e0q]
          obtain ⟨La826, hLa826⟩ : ∃ L : Array Slot, L = #[.val (.long l0), .second, .val (.long l1), .second, .val (.long l2), .second, .val (.long u0), .second, .val (.long u1), .second, .val (.int sel), .val (.int mm), .val (.int (1 : Int32)), .val (.int (0 : Int32)), .val (.int (1 : Int32)), .val (.int (0 : Int32)), .val (.long u0), .second, .val (.long u1), .second, .val (.long v2), .second, .val (.long v3), .second, .val (.int (2 : Int32)), .val (.ref ad771), .val (.ref ad775), .val (.int (2 : Int32)), .val (.long l3), .second, .val (.ref ad799), .val (.ref ob), .val (.long e0q), .second, .unset, .unset, .unset, .unset, .unset, .unset] := ⟨_, rfl⟩
          refine own_up (S' := T822.setTop (mkF m 293 La826 [])) (fun t stp => XT.lstore X822.here hx rfl (hb hby at_291) rfl (l' := La826) (by rw [hLa821, hLa826]; rfl) stp) ?_
          refine own_up (S' := T822.setTop (mkF m 295 La826 [(.int (0 : Int32))])) (fun t stp => XS.iload X822.here hx rfl (hb hby at_293) (by rw [hLa826]; rfl) stp) ?_
          have hc295_827 : (0 : Int32) = 0 := hc98_767
          refine own_up (S' := T822.setTop (mkF m 305 La826 [])) (fun t stp => XS.ifYes X822.here hx rfl (pc0 := 295) (pc' := 305) rfl (hb hby at_295) rfl (XT.i0_eq_t hc295_827) (by decide) (by decide) stp) ?_
          refine own_up (S' := T822.setTop (mkF m 306 La826 [(.long l1)])) (fun t stp => XT.lloadN X822.here hx rfl (hb hby at_305) (by rw [hLa826]; rfl) stp) ?_
          obtain ⟨La828, hLa828⟩ : ∃ L : Array Slot, L = #[.val (.long l0), .second, .val (.long l1), .second, .val (.long l2), .second, .val (.long u0), .second, .val (.long u1), .second, .val (.int sel), .val (.int mm), .val (.int (1 : Int32)), .val (.int (0 : Int32)), .val (.int (1 : Int32)), .val (.int (0 : Int32)), .val (.long u0), .second, .val (.long u1), .second, .val (.long v2), .second, .val (.long v3), .second, .val (.int (2 : Int32)), .val (.ref ad771), .val (.ref ad775), .val (.int (2 : Int32)), .val (.long l3), .second, .val (.ref ad799), .val (.ref ob), .val (.long e0q), .second, .val (.long l1), .second, .unset, .unset, .unset, .unset] := ⟨_, rfl⟩
          refine own_up (S' := T822.setTop (mkF m 308 La828 [])) (fun t stp => XT.lstore X822.here hx rfl (hb hby at_306) rfl (l' := La828) (by rw [hLa826, hLa828]; rfl) stp) ?_
          refine own_up (S' := T822.setTop (mkF m 310 La828 [(.int (1 : Int32))])) (fun t stp => XS.iload X822.here hx rfl (hb hby at_308) (by rw [hLa828]; rfl) stp) ?_
          have hc310_829 : ¬ ((1 : Int32) = 0) := hc88_766
          refine own_up (S' := T822.setTop (mkF m 313 La828 [])) (fun t stp => XS.ifNo X822.here hx rfl (hb hby at_310) rfl (XT.i0_eq_f hc310_829) stp) ?_
          refine own_up (S' := T822.setTop (mkF m 315 La828 [(.long l2)])) (fun t stp => XT.lload X822.here hx rfl (hb hby at_313) (by rw [hLa828]; rfl) stp) ?_
          refine own_up (S' := T822.setTop (mkF m 317 La828 [(.long v2), (.long l2)])) (fun t stp => XT.lload X822.here hx rfl (hb hby at_315) (by rw [hLa828]; rfl) stp) ?_
          refine own_up (S' := T822.setTop (mkF m 318 La828 [(.long (l2 - v2))])) (fun t stp => XT.lsub X822.here hx rfl (hb hby at_317) rfl stp) ?_
          refine own_up (S' := T822.setTop (mkF m 323 La828 [(.long (l2 - v2))])) (fun t stp => XS.goto X822.here hx rfl (pc0 := 318) (pc' := 323) rfl (hb hby at_318) (by decide) (by decide) stp) ?_
          obtain ⟨e2q, h_e2q⟩ : ∃ z : Int64, z = (l2 - v2) := ⟨_, rfl⟩
          rw [← h_e2q]
          obtain ⟨La830, hLa830⟩ : ∃ L : Array Slot, L = #[.val (.long l0), .second, .val (.long l1), .second, .val (.long l2), .second, .val (.long u0), .second, .val (.long u1), .second, .val (.int sel), .val (.int mm), .val (.int (1 : Int32)), .val (.int (0 : Int32)), .val (.int (1 : Int32)), .val (.int (0 : Int32)), .val (.long u0), .second, .val (.long u1), .second, .val (.long v2), .second, .val (.long v3), .second, .val (.int (2 : Int32)), .val (.ref ad771), .val (.ref ad775), .val (.int (2 : Int32)), .val (.long l3), .second, .val (.ref ad799), .val (.ref ob), .val (.long e0q), .second, .val (.long l1), .second, .val (.long e2q), .second, .unset, .unset] := ⟨_, rfl⟩
          refine own_up (S' := T822.setTop (mkF m 325 La830 [])) (fun t stp => XT.lstore X822.here hx rfl (hb hby at_323) rfl (l' := La830) (by rw [hLa828, hLa830]; rfl) stp) ?_
          refine own_up (S' := T822.setTop (mkF m 327 La830 [(.int (0 : Int32))])) (fun t stp => XS.iload X822.here hx rfl (hb hby at_325) (by rw [hLa830]; rfl) stp) ?_
          have hc327_831 : (0 : Int32) = 0 := hc98_767
          refine own_up (S' := T822.setTop (mkF m 338 La830 [])) (fun t stp => XS.ifYes X822.here hx rfl (pc0 := 327) (pc' := 338) rfl (hb hby at_327) rfl (XT.i0_eq_t hc327_831) (by decide) (by decide) stp) ?_
          refine own_up (S' := T822.setTop (mkF m 340 La830 [(.long l3)])) (fun t stp => XT.lload X822.here hx rfl (hb hby at_338) (by rw [hLa830]; rfl) stp) ?_
          obtain ⟨La832, hLa832⟩ : ∃ L : Array Slot, L = #[.val (.long l0), .second, .val (.long l1), .second, .val (.long l2), .second, .val (.long u0), .second, .val (.long u1), .second, .val (.int sel), .val (.int mm), .val (.int (1 : Int32)), .val (.int (0 : Int32)), .val (.int (1 : Int32)), .val (.int (0 : Int32)), .val (.long u0), .second, .val (.long u1), .second, .val (.long v2), .second, .val (.long v3), .second, .val (.int (2 : Int32)), .val (.ref ad771), .val (.ref ad775), .val (.int (2 : Int32)), .val (.long l3), .second, .val (.ref ad799), .val (.ref ob), .val (.long e0q), .second, .val (.long l1), .second, .val (.long e2q), .second, .val (.long l3), .second] := ⟨_, rfl⟩
          refine own_up (S' := T822.setTop (mkF m 342 La832 [])) (fun t stp => XT.lstore X822.here hx rfl (hb hby at_340) rfl (l' := La832) (by rw [hLa830, hLa832]; rfl) stp) ?_
          refine own_up (S' := T822.setTop (mkF m 344 La832 [(.ref ad799)])) (fun t stp => XS.aload X822.here hx rfl (hb hby at_342) (by rw [hLa832]; rfl) rfl stp) ?_
          refine own_len X822 hx hZ rfl Tk822 (4 : Int32) (hb hby at_344) (rfl) rfl rfl (g' := (mkF m 345 La832 [(.int (4 : Int32))])) rfl ?_
          refine own_up (S' := T822.setTop (mkF m 346 La832 [(.int (4 : Int32)), (.int (4 : Int32))])) (fun t stp => XT.iconstV X822.here hx rfl (4 : Int32) (hb hby at_345) rfl stp) ?_
          have hc346_833 : (4 : Int32) = (4 : Int32) := rfl
          refine own_up (S' := T822.setTop (mkF m 349 La832 [])) (fun t stp => XS.icmpNo X822.here hx rfl (hb hby at_346) rfl (XT.ii_ne_f hc346_833) stp) ?_
          refine own_up (S' := T822.setTop (mkF m 351 La832 [(.ref ad799)])) (fun t stp => XS.aload X822.here hx rfl (hb hby at_349) (by rw [hLa832]; rfl) rfl stp) ?_
          refine own_up (S' := T822.setTop (mkF m 352 La832 [(.int (0 : Int32)), (.ref ad799)])) (fun t stp => XT.iconstV X822.here hx rfl (0 : Int32) (hb hby at_351) rfl stp) ?_
          refine own_ldj X822 hx hZ rfl Tk822 (v := (.long (l0 - u0))) 0 (hb hby at_352) (rfl) (rfl) rfl rfl (g' := (mkF m 353 La832 [(.long (l0 - u0))])) rfl ?_
          refine own_up (S' := T822.setTop (mkF m 355 La832 [(.long e0q), (.long (l0 - u0))])) (fun t stp => XT.lload X822.here hx rfl (hb hby at_353) (by rw [hLa832]; rfl) stp) ?_
          refine own_up (S' := T822.setTop (mkF m 356 La832 [(.int (XT.cmpL (l0 - u0) e0q))])) (fun t stp => XT.lcmp X822.here hx rfl (hb hby at_355) rfl stp) ?_
          have hc356_834 : (l0 - u0) = e0q := h_e0q.symm
          have ihc356_834 : (l0 - u0).toInt = e0q.toInt := own_leq hc356_834
          refine own_up (S' := T822.setTop (mkF m 359 La832 [])) (fun t stp => XS.ifNo X822.here hx rfl (hb hby at_356) rfl (XT.ll_ne_f hc356_834) stp) ?_
          refine own_up (S' := T822.setTop (mkF m 361 La832 [(.ref ad799)])) (fun t stp => XS.aload X822.here hx rfl (hb hby at_359) (by rw [hLa832]; rfl) rfl stp) ?_
          refine own_up (S' := T822.setTop (mkF m 362 La832 [(.int (1 : Int32)), (.ref ad799)])) (fun t stp => XT.iconstV X822.here hx rfl (1 : Int32) (hb hby at_361) rfl stp) ?_
          refine own_ldj X822 hx hZ rfl Tk822 (v := (.long l1)) 1 (hb hby at_362) (rfl) (rfl) rfl rfl (g' := (mkF m 363 La832 [(.long l1)])) rfl ?_
          refine own_up (S' := T822.setTop (mkF m 365 La832 [(.long l1), (.long l1)])) (fun t stp => XT.lload X822.here hx rfl (hb hby at_363) (by rw [hLa832]; rfl) stp) ?_
          refine own_up (S' := T822.setTop (mkF m 366 La832 [(.int (XT.cmpL l1 l1))])) (fun t stp => XT.lcmp X822.here hx rfl (hb hby at_365) rfl stp) ?_
          have hc366_835 : l1 = l1 := rfl
          have ihc366_835 : l1.toInt = l1.toInt := own_leq hc366_835
          refine own_up (S' := T822.setTop (mkF m 369 La832 [])) (fun t stp => XS.ifNo X822.here hx rfl (hb hby at_366) rfl (XT.ll_ne_f hc366_835) stp) ?_
          refine own_up (S' := T822.setTop (mkF m 371 La832 [(.ref ad799)])) (fun t stp => XS.aload X822.here hx rfl (hb hby at_369) (by rw [hLa832]; rfl) rfl stp) ?_
          refine own_up (S' := T822.setTop (mkF m 372 La832 [(.int (2 : Int32)), (.ref ad799)])) (fun t stp => XT.iconstV X822.here hx rfl (2 : Int32) (hb hby at_371) rfl stp) ?_
          refine own_ldj X822 hx hZ rfl Tk822 (v := (.long (l2 - v2))) 2 (hb hby at_372) (rfl) (rfl) rfl rfl (g' := (mkF m 373 La832 [(.long (l2 - v2))])) rfl ?_
          refine own_up (S' := T822.setTop (mkF m 375 La832 [(.long e2q), (.long (l2 - v2))])) (fun t stp => XT.lload X822.here hx rfl (hb hby at_373) (by rw [hLa832]; rfl) stp) ?_
          refine own_up (S' := T822.setTop (mkF m 376 La832 [(.int (XT.cmpL (l2 - v2) e2q))])) (fun t stp => XT.lcmp X822.here hx rfl (hb hby at_375) rfl stp) ?_
          have hc376_836 : (l2 - v2) = e2q := h_e2q.symm
          have ihc376_836 : (l2 - v2).toInt = e2q.toInt := own_leq hc376_836
          refine own_up (S' := T822.setTop (mkF m 379 La832 [])) (fun t stp => XS.ifNo X822.here hx rfl (hb hby at_376) rfl (XT.ll_ne_f hc376_836) stp) ?_
          refine own_up (S' := T822.setTop (mkF m 381 La832 [(.ref ad799)])) (fun t stp => XS.aload X822.here hx rfl (hb hby at_379) (by rw [hLa832]; rfl) rfl stp) ?_
          refine own_up (S' := T822.setTop (mkF m 382 La832 [(.int (3 : Int32)), (.ref ad799)])) (fun t stp => XT.iconstV X822.here hx rfl (3 : Int32) (hb hby at_381) rfl stp) ?_
          refine own_ldj X822 hx hZ rfl Tk822 (v := (.long l3)) 3 (hb hby at_382) (rfl) (rfl) rfl rfl (g' := (mkF m 383 La832 [(.long l3)])) rfl ?_
          refine own_up (S' := T822.setTop (mkF m 385 La832 [(.long l3), (.long l3)])) (fun t stp => XT.lload X822.here hx rfl (hb hby at_383) (by rw [hLa832]; rfl) stp) ?_
          refine own_up (S' := T822.setTop (mkF m 386 La832 [(.int (XT.cmpL l3 l3))])) (fun t stp => XT.lcmp X822.here hx rfl (hb hby at_385) rfl stp) ?_
          have hc386_837 : l3 = l3 := rfl
          have ihc386_837 : l3.toInt = l3.toInt := own_leq hc386_837
          refine own_up (S' := T822.setTop (mkF m 389 La832 [])) (fun t stp => XS.ifNo X822.here hx rfl (hb hby at_386) rfl (XT.ll_ne_f hc386_837) stp) ?_
          refine own_up (S' := T822.setTop (mkF m 390 La832 [(.int (1 : Int32))])) (fun t stp => XT.iconstV X822.here hx rfl (1 : Int32) (hb hby at_389) rfl stp) ?_
          refine own_up (S' := T822.setTop (mkF m 394 La832 [(.int (1 : Int32))])) (fun t stp => XS.goto X822.here hx rfl (pc0 := 390) (pc' := 394) rfl (hb hby at_390) (by decide) (by decide) stp) ?_
          refine own_retN X822 hx hlk (t := .boolean) hret (by simp) (z' := (1 : Int32)) rfl (hb hby at_394) (by decide) (by decide) ?_
          show own_Q0 Z l0 l1 l2 u0 u1 sel h0 n0 _ T822.heap _
          exact ⟨rfl, N822⟩
        · have ihc54_760 : (mm &&& (8 : Int32)).toInt ≠ 0 := own_ine hc54_760
          refine own_up (S' := T0.setTop (mkF m 57 La759 [])) (fun t stp => XS.ifNo X0.here hx rfl (hb hby at_54) rfl (XT.i0_eq_f hc54_760) stp) ?_
          refine own_up (S' := T0.setTop (mkF m 58 La759 [(.int (1 : Int32))])) (fun t stp => XT.iconstV X0.here hx rfl (1 : Int32) (hb hby at_57) rfl stp) ?_
          refine own_up (S' := T0.setTop (mkF m 62 La759 [(.int (1 : Int32))])) (fun t stp => XS.goto X0.here hx rfl (pc0 := 58) (pc' := 62) rfl (hb hby at_58) (by decide) (by decide) stp) ?_
          obtain ⟨La838, hLa838⟩ : ∃ L : Array Slot, L = #[.val (.long l0), .second, .val (.long l1), .second, .val (.long l2), .second, .val (.long u0), .second, .val (.long u1), .second, .val (.int sel), .val (.int mm), .val (.int (1 : Int32)), .val (.int (0 : Int32)), .val (.int (1 : Int32)), .val (.int (1 : Int32)), .unset, .unset, .unset, .unset, .unset, .unset, .unset, .unset, .unset, .unset, .unset, .unset, .unset, .unset, .unset, .unset, .unset, .unset, .unset, .unset, .unset, .unset, .unset, .unset] := ⟨_, rfl⟩
          refine own_up (S' := T0.setTop (mkF m 64 La838 [])) (fun t stp => XS.istore X0.here hx rfl (hb hby at_62) rfl (l' := La838) (by rw [hLa759, hLa838]; rfl) stp) ?_
          refine own_up (S' := T0.setTop (mkF m 66 La838 [(.long u0)])) (fun t stp => XT.lload X0.here hx rfl (hb hby at_64) (by rw [hLa838]; rfl) stp) ?_
          obtain ⟨La839, hLa839⟩ : ∃ L : Array Slot, L = #[.val (.long l0), .second, .val (.long l1), .second, .val (.long l2), .second, .val (.long u0), .second, .val (.long u1), .second, .val (.int sel), .val (.int mm), .val (.int (1 : Int32)), .val (.int (0 : Int32)), .val (.int (1 : Int32)), .val (.int (1 : Int32)), .val (.long u0), .second, .unset, .unset, .unset, .unset, .unset, .unset, .unset, .unset, .unset, .unset, .unset, .unset, .unset, .unset, .unset, .unset, .unset, .unset, .unset, .unset, .unset, .unset] := ⟨_, rfl⟩
          refine own_up (S' := T0.setTop (mkF m 68 La839 [])) (fun t stp => XT.lstore X0.here hx rfl (hb hby at_66) rfl (l' := La839) (by rw [hLa838, hLa839]; rfl) stp) ?_
          refine own_up (S' := T0.setTop (mkF m 70 La839 [(.long u1)])) (fun t stp => XT.lload X0.here hx rfl (hb hby at_68) (by rw [hLa839]; rfl) stp) ?_
          obtain ⟨La840, hLa840⟩ : ∃ L : Array Slot, L = #[.val (.long l0), .second, .val (.long l1), .second, .val (.long l2), .second, .val (.long u0), .second, .val (.long u1), .second, .val (.int sel), .val (.int mm), .val (.int (1 : Int32)), .val (.int (0 : Int32)), .val (.int (1 : Int32)), .val (.int (1 : Int32)), .val (.long u0), .second, .val (.long u1), .second, .unset, .unset, .unset, .unset, .unset, .unset, .unset, .unset, .unset, .unset, .unset, .unset, .unset, .unset, .unset, .unset, .unset, .unset, .unset, .unset] := ⟨_, rfl⟩
          refine own_up (S' := T0.setTop (mkF m 72 La840 [])) (fun t stp => XT.lstore X0.here hx rfl (hb hby at_70) rfl (l' := La840) (by rw [hLa839, hLa840]; rfl) stp) ?_
          refine own_up (S' := T0.setTop (mkF m 74 La840 [(.long u0)])) (fun t stp => XT.lload X0.here hx rfl (hb hby at_72) (by rw [hLa840]; rfl) stp) ?_
          refine own_up (S' := T0.setTop (mkF m 76 La840 [(.long u1), (.long u0)])) (fun t stp => XT.lload X0.here hx rfl (hb hby at_74) (by rw [hLa840]; rfl) stp) ?_
          refine own_up (S' := T0.setTop (mkF m 77 La840 [(.long (u0 - u1))])) (fun t stp => XT.lsub X0.here hx rfl (hb hby at_76) rfl stp) ?_
          obtain ⟨v2, h_v2⟩ : ∃ z : Int64, z = (u0 - u1) := ⟨_, rfl⟩
          rw [← h_v2]
          obtain ⟨La841, hLa841⟩ : ∃ L : Array Slot, L = #[.val (.long l0), .second, .val (.long l1), .second, .val (.long l2), .second, .val (.long u0), .second, .val (.long u1), .second, .val (.int sel), .val (.int mm), .val (.int (1 : Int32)), .val (.int (0 : Int32)), .val (.int (1 : Int32)), .val (.int (1 : Int32)), .val (.long u0), .second, .val (.long u1), .second, .val (.long v2), .second, .unset, .unset, .unset, .unset, .unset, .unset, .unset, .unset, .unset, .unset, .unset, .unset, .unset, .unset, .unset, .unset, .unset, .unset] := ⟨_, rfl⟩
          refine own_up (S' := T0.setTop (mkF m 79 La841 [])) (fun t stp => XT.lstore X0.here hx rfl (hb hby at_77) rfl (l' := La841) (by rw [hLa840, hLa841]; rfl) stp) ?_
          refine own_up (S' := T0.setTop (mkF m 81 La841 [(.long u1)])) (fun t stp => XT.lload X0.here hx rfl (hb hby at_79) (by rw [hLa841]; rfl) stp) ?_
          refine own_up (S' := T0.setTop (mkF m 83 La841 [(.long l2), (.long u1)])) (fun t stp => XT.lload X0.here hx rfl (hb hby at_81) (by rw [hLa841]; rfl) stp) ?_
          refine own_up (S' := T0.setTop (mkF m 84 La841 [(.long (u1 ^^^ l2))])) (fun t stp => XT.lxor X0.here hx rfl (hb hby at_83) rfl stp) ?_
          obtain ⟨v3, h_v3⟩ : ∃ z : Int64, z = (u1 ^^^ l2) := ⟨_, rfl⟩
          rw [← h_v3]
          obtain ⟨La842, hLa842⟩ : ∃ L : Array Slot, L = #[.val (.long l0), .second, .val (.long l1), .second, .val (.long l2), .second, .val (.long u0), .second, .val (.long u1), .second, .val (.int sel), .val (.int mm), .val (.int (1 : Int32)), .val (.int (0 : Int32)), .val (.int (1 : Int32)), .val (.int (1 : Int32)), .val (.long u0), .second, .val (.long u1), .second, .val (.long v2), .second, .val (.long v3), .second, .unset, .unset, .unset, .unset, .unset, .unset, .unset, .unset, .unset, .unset, .unset, .unset, .unset, .unset, .unset, .unset] := ⟨_, rfl⟩
          refine own_up (S' := T0.setTop (mkF m 86 La842 [])) (fun t stp => XT.lstore X0.here hx rfl (hb hby at_84) rfl (l' := La842) (by rw [hLa841, hLa842]; rfl) stp) ?_
          refine own_up (S' := T0.setTop (mkF m 88 La842 [(.int (1 : Int32))])) (fun t stp => XS.iload X0.here hx rfl (hb hby at_86) (by rw [hLa842]; rfl) stp) ?_
          have hc88_843 : ¬ ((1 : Int32) = 0) := by decide
          refine own_up (S' := T0.setTop (mkF m 91 La842 [])) (fun t stp => XS.ifNo X0.here hx rfl (hb hby at_88) rfl (XT.i0_eq_f hc88_843) stp) ?_
          refine own_up (S' := T0.setTop (mkF m 92 La842 [(.int (1 : Int32))])) (fun t stp => XT.iconstV X0.here hx rfl (1 : Int32) (hb hby at_91) rfl stp) ?_
          refine own_up (S' := T0.setTop (mkF m 96 La842 [(.int (1 : Int32))])) (fun t stp => XS.goto X0.here hx rfl (pc0 := 92) (pc' := 96) rfl (hb hby at_92) (by decide) (by decide) stp) ?_
          refine own_up (S' := T0.setTop (mkF m 98 La842 [(.int (0 : Int32)), (.int (1 : Int32))])) (fun t stp => XS.iload X0.here hx rfl (hb hby at_96) (by rw [hLa842]; rfl) stp) ?_
          have hc98_844 : (0 : Int32) = 0 := by decide
          refine own_up (S' := T0.setTop (mkF m 105 La842 [(.int (1 : Int32))])) (fun t stp => XS.ifYes X0.here hx rfl (pc0 := 98) (pc' := 105) rfl (hb hby at_98) rfl (XT.i0_eq_t hc98_844) (by decide) (by decide) stp) ?_
          refine own_up (S' := T0.setTop (mkF m 106 La842 [(.int (0 : Int32)), (.int (1 : Int32))])) (fun t stp => XT.iconstV X0.here hx rfl (0 : Int32) (hb hby at_105) rfl stp) ?_
          refine own_up (S' := T0.setTop (mkF m 107 La842 [(.int ((1 : Int32) + (0 : Int32)))])) (fun t stp => XS.iadd X0.here hx rfl (hb hby at_106) rfl stp) ?_
          refine own_up (S' := T0.setTop (mkF m 109 La842 [(.int (1 : Int32)), (.int ((1 : Int32) + (0 : Int32)))])) (fun t stp => XS.iload X0.here hx rfl (hb hby at_107) (by rw [hLa842]; rfl) stp) ?_
          have hc109_845 : ¬ ((1 : Int32) = 0) := hc88_843
          refine own_up (S' := T0.setTop (mkF m 112 La842 [(.int ((1 : Int32) + (0 : Int32)))])) (fun t stp => XS.ifNo X0.here hx rfl (hb hby at_109) rfl (XT.i0_eq_f hc109_845) stp) ?_
          refine own_up (S' := T0.setTop (mkF m 113 La842 [(.int (1 : Int32)), (.int ((1 : Int32) + (0 : Int32)))])) (fun t stp => XT.iconstV X0.here hx rfl (1 : Int32) (hb hby at_112) rfl stp) ?_
          refine own_up (S' := T0.setTop (mkF m 117 La842 [(.int (1 : Int32)), (.int ((1 : Int32) + (0 : Int32)))])) (fun t stp => XS.goto X0.here hx rfl (pc0 := 113) (pc' := 117) rfl (hb hby at_113) (by decide) (by decide) stp) ?_
          refine own_up (S' := T0.setTop (mkF m 118 La842 [(.int (((1 : Int32) + (0 : Int32)) + (1 : Int32)))])) (fun t stp => XS.iadd X0.here hx rfl (hb hby at_117) rfl stp) ?_
          refine own_up (S' := T0.setTop (mkF m 120 La842 [(.int (1 : Int32)), (.int (((1 : Int32) + (0 : Int32)) + (1 : Int32)))])) (fun t stp => XS.iload X0.here hx rfl (hb hby at_118) (by rw [hLa842]; rfl) stp) ?_
          have hc120_846 : ¬ ((1 : Int32) = 0) := hc88_843
          refine own_up (S' := T0.setTop (mkF m 123 La842 [(.int (((1 : Int32) + (0 : Int32)) + (1 : Int32)))])) (fun t stp => XS.ifNo X0.here hx rfl (hb hby at_120) rfl (XT.i0_eq_f hc120_846) stp) ?_
          refine own_up (S' := T0.setTop (mkF m 124 La842 [(.int (1 : Int32)), (.int (((1 : Int32) + (0 : Int32)) + (1 : Int32)))])) (fun t stp => XT.iconstV X0.here hx rfl (1 : Int32) (hb hby at_123) rfl stp) ?_
          refine own_up (S' := T0.setTop (mkF m 128 La842 [(.int (1 : Int32)), (.int (((1 : Int32) + (0 : Int32)) + (1 : Int32)))])) (fun t stp => XS.goto X0.here hx rfl (pc0 := 124) (pc' := 128) rfl (hb hby at_124) (by decide) (by decide) stp) ?_
          refine own_up (S' := T0.setTop (mkF m 129 La842 [(.int ((((1 : Int32) + (0 : Int32)) + (1 : Int32)) + (1 : Int32)))])) (fun t stp => XS.iadd X0.here hx rfl (hb hby at_128) rfl stp) ?_
          show own_Ends p e below s (own_Q0 Z l0 l1 l2 u0 u1 sel h0 n0) room_1.cells room_1.slots (T0.setTop (mkF m 129 La842 [(.int (3 : Int32))]))
          obtain ⟨La847, hLa847⟩ : ∃ L : Array Slot, L = #[.val (.long l0), .second, .val (.long l1), .second, .val (.long l2), .second, .val (.long u0), .second, .val (.long u1), .second, .val (.int sel), .val (.int mm), .val (.int (1 : Int32)), .val (.int (0 : Int32)), .val (.int (1 : Int32)), .val (.int (1 : Int32)), .val (.long u0), .second, .val (.long u1), .second, .val (.long v2), .second, .val (.long v3), .second, .val (.int (3 : Int32)), .unset, .unset, .unset, .unset, .unset, .unset, .unset, .unset, .unset, .unset, .unset, .unset, .unset, .unset, .unset] := ⟨_, rfl⟩
          refine own_up (S' := T0.setTop (mkF m 131 La847 [])) (fun t stp => XS.istore X0.here hx rfl (hb hby at_129) rfl (l' := La847) (by rw [hLa842, hLa847]; rfl) stp) ?_
          refine own_up (S' := T0.setTop (mkF m 133 La847 [(.int (3 : Int32))])) (fun t stp => XS.iload X0.here hx rfl (hb hby at_131) (by rw [hLa847]; rfl) stp) ?_
          refine own_newa X0 hx hZ (ty := .int) rfl (hw _ (List.mem_of_getElem? (i := 0) rfl)) e0 3 (hb hby at_133) (rfl) 3 (by decide) (by decide) (by decide) (by decide) rfl rfl ?_
          intro T848 h848 ad848 hb848 X848 e848 E848 A848
          have g_ad848 : n0 ≤ ad848 := Nat.le_trans Z0 (Nat.le_of_eq hb848.symm)
          have Zn849 := Nat.le_trans Z0 E848.1
          have Al848 : own_Al Z h848 ad848 .int [(.int (0 : Int32)), (.int (0 : Int32)), (.int (0 : Int32))] := A848
          show own_Ends p e below s (own_Q0 Z l0 l1 l2 u0 u1 sel h0 n0) room_1.cells room_1.slots (T848.setTop (mkF m 135 La847 [(.ref ad848)]))
          obtain ⟨La851, hLa851⟩ : ∃ L : Array Slot, L = #[.val (.long l0), .second, .val (.long l1), .second, .val (.long l2), .second, .val (.long u0), .second, .val (.long u1), .second, .val (.int sel), .val (.int mm), .val (.int (1 : Int32)), .val (.int (0 : Int32)), .val (.int (1 : Int32)), .val (.int (1 : Int32)), .val (.long u0), .second, .val (.long u1), .second, .val (.long v2), .second, .val (.long v3), .second, .val (.int (3 : Int32)), .val (.ref ad848), .unset, .unset, .unset, .unset, .unset, .unset, .unset, .unset, .unset, .unset, .unset, .unset, .unset, .unset] := ⟨_, rfl⟩
          refine own_up (S' := T848.setTop (mkF m 137 La851 [])) (fun t stp => XS.astore X848.here hx rfl (hb hby at_135) rfl rfl (l' := La851) (by rw [hLa847, hLa851]; rfl) stp) ?_
          refine own_up (S' := T848.setTop (mkF m 139 La851 [(.int (3 : Int32))])) (fun t stp => XS.iload X848.here hx rfl (hb hby at_137) (by rw [hLa851]; rfl) stp) ?_
          refine own_newa X848 hx hZ (ty := .long) rfl (hw _ (List.mem_of_getElem? (i := 1) rfl)) e848 3 (hb hby at_139) (rfl) 3 (by decide) (by decide) (by decide) (by decide) rfl rfl ?_
          intro T852 h852 ad852 hb852 X852 e852 E852 A852
          have ne852_ad848_ad852 : ad848 ≠ ad852 := Nat.ne_of_lt (Nat.lt_of_lt_of_eq (own_Al_lt Al848) hb852.symm)
          have g_ad852 : n0 ≤ ad852 := Nat.le_trans Zn849 (Nat.le_of_eq hb852.symm)
          have Zn853 := Nat.le_trans Zn849 E852.1
          have Al848_854 := own_Al_ext E852 Al848
          have Al852 : own_Al Z h852 ad852 .long [(.long (0 : Int64)), (.long (0 : Int64)), (.long (0 : Int64))] := A852
          show own_Ends p e below s (own_Q0 Z l0 l1 l2 u0 u1 sel h0 n0) room_1.cells room_1.slots (T852.setTop (mkF m 141 La851 [(.ref ad852)]))
          obtain ⟨La855, hLa855⟩ : ∃ L : Array Slot, L = #[.val (.long l0), .second, .val (.long l1), .second, .val (.long l2), .second, .val (.long u0), .second, .val (.long u1), .second, .val (.int sel), .val (.int mm), .val (.int (1 : Int32)), .val (.int (0 : Int32)), .val (.int (1 : Int32)), .val (.int (1 : Int32)), .val (.long u0), .second, .val (.long u1), .second, .val (.long v2), .second, .val (.long v3), .second, .val (.int (3 : Int32)), .val (.ref ad848), .val (.ref ad852), .unset, .unset, .unset, .unset, .unset, .unset, .unset, .unset, .unset, .unset, .unset, .unset, .unset] := ⟨_, rfl⟩
          refine own_up (S' := T852.setTop (mkF m 143 La855 [])) (fun t stp => XS.astore X852.here hx rfl (hb hby at_141) rfl rfl (l' := La855) (by rw [hLa851, hLa855]; rfl) stp) ?_
          refine own_up (S' := T852.setTop (mkF m 144 La855 [(.int (0 : Int32))])) (fun t stp => XT.iconstV X852.here hx rfl (0 : Int32) (hb hby at_143) rfl stp) ?_
          obtain ⟨La856, hLa856⟩ : ∃ L : Array Slot, L = #[.val (.long l0), .second, .val (.long l1), .second, .val (.long l2), .second, .val (.long u0), .second, .val (.long u1), .second, .val (.int sel), .val (.int mm), .val (.int (1 : Int32)), .val (.int (0 : Int32)), .val (.int (1 : Int32)), .val (.int (1 : Int32)), .val (.long u0), .second, .val (.long u1), .second, .val (.long v2), .second, .val (.long v3), .second, .val (.int (3 : Int32)), .val (.ref ad848), .val (.ref ad852), .val (.int (0 : Int32)), .unset, .unset, .unset, .unset, .unset, .unset, .unset, .unset, .unset, .unset, .unset, .unset] := ⟨_, rfl⟩
          refine own_up (S' := T852.setTop (mkF m 146 La856 [])) (fun t stp => XS.istore X852.here hx rfl (hb hby at_144) rfl (l' := La856) (by rw [hLa855, hLa856]; rfl) stp) ?_
          refine own_up (S' := T852.setTop (mkF m 148 La856 [(.int (1 : Int32))])) (fun t stp => XS.iload X852.here hx rfl (hb hby at_146) (by rw [hLa856]; rfl) stp) ?_
          have hc148_857 : ¬ ((1 : Int32) = 0) := hc88_843
          refine own_up (S' := T852.setTop (mkF m 151 La856 [])) (fun t stp => XS.ifNo X852.here hx rfl (hb hby at_148) rfl (XT.i0_eq_f hc148_857) stp) ?_
          refine own_up (S' := T852.setTop (mkF m 153 La856 [(.ref ad848)])) (fun t stp => XS.aload X852.here hx rfl (hb hby at_151) (by rw [hLa856]; rfl) rfl stp) ?_
          refine own_up (S' := T852.setTop (mkF m 155 La856 [(.int (0 : Int32)), (.ref ad848)])) (fun t stp => XS.iload X852.here hx rfl (hb hby at_153) (by rw [hLa856]; rfl) stp) ?_
          refine own_up (S' := T852.setTop (mkF m 156 La856 [(.int (0 : Int32)), (.int (0 : Int32)), (.ref ad848)])) (fun t stp => XT.iconstV X852.here hx rfl (0 : Int32) (hb hby at_155) rfl stp) ?_
          refine own_sti X852 hx hZ e852 Al848_854 0 (hb hby at_156) (rfl) (Nat.le_of_ble_eq_true rfl) rfl rfl (g' := (mkF m 157 La856 [])) rfl ?_
          intro T858 h858 X858 e858 W858 B858
          have Zn859 := Nat.le_trans Zn853 (Nat.le_of_eq W858.size.symm)
          have Al852_860 := own_Al_oth W858 Al852 (Ne.symm ne852_ad848_ad852)
          have N858 := Fr.snoc X858 N0 g_ad848
          have Al858 : own_Al Z h858 ad848 .int [(.int (0 : Int32)), (.int (0 : Int32)), (.int (0 : Int32))] := B858
          refine own_up (S' := T858.setTop (mkF m 159 La856 [(.ref ad852)])) (fun t stp => XS.aload X858.here hx rfl (hb hby at_157) (by rw [hLa856]; rfl) rfl stp) ?_
          refine own_up (S' := T858.setTop (mkF m 161 La856 [(.int (0 : Int32)), (.ref ad852)])) (fun t stp => XS.iload X858.here hx rfl (hb hby at_159) (by rw [hLa856]; rfl) stp) ?_
          refine own_up (S' := T858.setTop (mkF m 163 La856 [(.long u0), (.int (0 : Int32)), (.ref ad852)])) (fun t stp => XT.lload X858.here hx rfl (hb hby at_161) (by rw [hLa856]; rfl) stp) ?_
          refine own_stj X858 hx hZ e858 Al852_860 0 (hb hby at_163) (rfl) (Nat.le_of_ble_eq_true rfl) rfl rfl (g' := (mkF m 164 La856 [])) rfl ?_
          intro T861 h861 X861 e861 W861 B861
          have Zn862 := Nat.le_trans Zn859 (Nat.le_of_eq W861.size.symm)
          have Al858_863 := own_Al_oth W861 Al858 ne852_ad848_ad852
          have N861 := Fr.snoc X861 N858 g_ad852
          have Al861 : own_Al Z h861 ad852 .long [(.long u0), (.long (0 : Int64)), (.long (0 : Int64))] := B861
          obtain ⟨La864, hLa864⟩ : ∃ L : Array Slot, L = #[.val (.long l0), .second, .val (.long l1), .second, .val (.long l2), .second, .val (.long u0), .second, .val (.long u1), .second, .val (.int sel), .val (.int mm), .val (.int (1 : Int32)), .val (.int (0 : Int32)), .val (.int (1 : Int32)), .val (.int (1 : Int32)), .val (.long u0), .second, .val (.long u1), .second, .val (.long v2), .second, .val (.long v3), .second, .val (.int (3 : Int32)), .val (.ref ad848), .val (.ref ad852), .val (.int (1 : Int32)), .unset, .unset, .unset, .unset, .unset, .unset, .unset, .unset, .unset, .unset, .unset, .unset] := ⟨_, rfl⟩
          refine own_up (S' := T861.setTop (mkF m 167 La864 [])) (fun t stp => XT.iincV X861.here hx rfl (1 : Int32) (hb hby at_164) rfl (by rw [hLa856]; rfl) (l' := La864) (by rw [hLa856, hLa864]; rfl) stp) ?_
          refine own_up (S' := T861.setTop (mkF m 169 La864 [(.int (0 : Int32))])) (fun t stp => XS.iload X861.here hx rfl (hb hby at_167) (by rw [hLa864]; rfl) stp) ?_
          have hc169_865 : (0 : Int32) = 0 := hc98_844
          refine own_up (S' := T861.setTop (mkF m 188 La864 [])) (fun t stp => XS.ifYes X861.here hx rfl (pc0 := 169) (pc' := 188) rfl (hb hby at_169) rfl (XT.i0_eq_t hc169_865) (by decide) (by decide) stp) ?_
          refine own_up (S' := T861.setTop (mkF m 190 La864 [(.int (1 : Int32))])) (fun t stp => XS.iload X861.here hx rfl (hb hby at_188) (by rw [hLa864]; rfl) stp) ?_
          have hc190_866 : ¬ ((1 : Int32) = 0) := hc88_843
          refine own_up (S' := T861.setTop (mkF m 193 La864 [])) (fun t stp => XS.ifNo X861.here hx rfl (hb hby at_190) rfl (XT.i0_eq_f hc190_866) stp) ?_
          refine own_up (S' := T861.setTop (mkF m 195 La864 [(.ref ad848)])) (fun t stp => XS.aload X861.here hx rfl (hb hby at_193) (by rw [hLa864]; rfl) rfl stp) ?_
          refine own_up (S' := T861.setTop (mkF m 197 La864 [(.int (1 : Int32)), (.ref ad848)])) (fun t stp => XS.iload X861.here hx rfl (hb hby at_195) (by rw [hLa864]; rfl) stp) ?_
          refine own_up (S' := T861.setTop (mkF m 198 La864 [(.int (2 : Int32)), (.int (1 : Int32)), (.ref ad848)])) (fun t stp => XT.iconstV X861.here hx rfl (2 : Int32) (hb hby at_197) rfl stp) ?_
          refine own_sti X861 hx hZ e861 Al858_863 1 (hb hby at_198) (rfl) (Nat.le_of_ble_eq_true rfl) rfl rfl (g' := (mkF m 199 La864 [])) rfl ?_
          intro T867 h867 X867 e867 W867 B867
          have Zn868 := Nat.le_trans Zn862 (Nat.le_of_eq W867.size.symm)
          have Al861_869 := own_Al_oth W867 Al861 (Ne.symm ne852_ad848_ad852)
          have N867 := Fr.snoc X867 N861 g_ad848
          have Al867 : own_Al Z h867 ad848 .int [(.int (0 : Int32)), (.int (2 : Int32)), (.int (0 : Int32))] := B867
          refine own_up (S' := T867.setTop (mkF m 201 La864 [(.ref ad852)])) (fun t stp => XS.aload X867.here hx rfl (hb hby at_199) (by rw [hLa864]; rfl) rfl stp) ?_
          refine own_up (S' := T867.setTop (mkF m 203 La864 [(.int (1 : Int32)), (.ref ad852)])) (fun t stp => XS.iload X867.here hx rfl (hb hby at_201) (by rw [hLa864]; rfl) stp) ?_
          refine own_up (S' := T867.setTop (mkF m 205 La864 [(.long v2), (.int (1 : Int32)), (.ref ad852)])) (fun t stp => XT.lload X867.here hx rfl (hb hby at_203) (by rw [hLa864]; rfl) stp) ?_
          refine own_stj X867 hx hZ e867 Al861_869 1 (hb hby at_205) (rfl) (Nat.le_of_ble_eq_true rfl) rfl rfl (g' := (mkF m 206 La864 [])) rfl ?_
          intro T870 h870 X870 e870 W870 B870
          have Zn871 := Nat.le_trans Zn868 (Nat.le_of_eq W870.size.symm)
          have Al867_872 := own_Al_oth W870 Al867 ne852_ad848_ad852
          have N870 := Fr.snoc X870 N867 g_ad852
          have Al870 : own_Al Z h870 ad852 .long [(.long u0), (.long v2), (.long (0 : Int64))] := B870
          obtain ⟨La873, hLa873⟩ : ∃ L : Array Slot, L = #[.val (.long l0), .second, .val (.long l1), .second, .val (.long l2), .second, .val (.long u0), .second, .val (.long u1), .second, .val (.int sel), .val (.int mm), .val (.int (1 : Int32)), .val (.int (0 : Int32)), .val (.int (1 : Int32)), .val (.int (1 : Int32)), .val (.long u0), .second, .val (.long u1), .second, .val (.long v2), .second, .val (.long v3), .second, .val (.int (3 : Int32)), .val (.ref ad848), .val (.ref ad852), .val (.int (2 : Int32)), .unset, .unset, .unset, .unset, .unset, .unset, .unset, .unset, .unset, .unset, .unset, .unset] := ⟨_, rfl⟩
          refine own_up (S' := T870.setTop (mkF m 209 La873 [])) (fun t stp => XT.iincV X870.here hx rfl (1 : Int32) (hb hby at_206) rfl (by rw [hLa864]; rfl) (l' := La873) (by rw [hLa864, hLa873]; rfl) stp) ?_
          refine own_up (S' := T870.setTop (mkF m 211 La873 [(.int (1 : Int32))])) (fun t stp => XS.iload X870.here hx rfl (hb hby at_209) (by rw [hLa873]; rfl) stp) ?_
          have hc211_874 : ¬ ((1 : Int32) = 0) := hc88_843
          refine own_up (S' := T870.setTop (mkF m 214 La873 [])) (fun t stp => XS.ifNo X870.here hx rfl (hb hby at_211) rfl (XT.i0_eq_f hc211_874) stp) ?_
          refine own_up (S' := T870.setTop (mkF m 216 La873 [(.ref ad848)])) (fun t stp => XS.aload X870.here hx rfl (hb hby at_214) (by rw [hLa873]; rfl) rfl stp) ?_
          refine own_up (S' := T870.setTop (mkF m 218 La873 [(.int (2 : Int32)), (.ref ad848)])) (fun t stp => XS.iload X870.here hx rfl (hb hby at_216) (by rw [hLa873]; rfl) stp) ?_
          refine own_up (S' := T870.setTop (mkF m 219 La873 [(.int (3 : Int32)), (.int (2 : Int32)), (.ref ad848)])) (fun t stp => XT.iconstV X870.here hx rfl (3 : Int32) (hb hby at_218) rfl stp) ?_
          refine own_sti X870 hx hZ e870 Al867_872 2 (hb hby at_219) (rfl) (Nat.le_of_ble_eq_true rfl) rfl rfl (g' := (mkF m 220 La873 [])) rfl ?_
          intro T875 h875 X875 e875 W875 B875
          have Zn876 := Nat.le_trans Zn871 (Nat.le_of_eq W875.size.symm)
          have Al870_877 := own_Al_oth W875 Al870 (Ne.symm ne852_ad848_ad852)
          have N875 := Fr.snoc X875 N870 g_ad848
          have Al875 : own_Al Z h875 ad848 .int [(.int (0 : Int32)), (.int (2 : Int32)), (.int (3 : Int32))] := B875
          refine own_up (S' := T875.setTop (mkF m 222 La873 [(.ref ad852)])) (fun t stp => XS.aload X875.here hx rfl (hb hby at_220) (by rw [hLa873]; rfl) rfl stp) ?_
          refine own_up (S' := T875.setTop (mkF m 224 La873 [(.int (2 : Int32)), (.ref ad852)])) (fun t stp => XS.iload X875.here hx rfl (hb hby at_222) (by rw [hLa873]; rfl) stp) ?_
          refine own_up (S' := T875.setTop (mkF m 226 La873 [(.long v3), (.int (2 : Int32)), (.ref ad852)])) (fun t stp => XT.lload X875.here hx rfl (hb hby at_224) (by rw [hLa873]; rfl) stp) ?_
          refine own_stj X875 hx hZ e875 Al870_877 2 (hb hby at_226) (rfl) (Nat.le_of_ble_eq_true rfl) rfl rfl (g' := (mkF m 227 La873 [])) rfl ?_
          intro T878 h878 X878 e878 W878 B878
          have Zn879 := Nat.le_trans Zn876 (Nat.le_of_eq W878.size.symm)
          have Al875_880 := own_Al_oth W878 Al875 ne852_ad848_ad852
          have N878 := Fr.snoc X878 N875 g_ad852
          have Al878 : own_Al Z h878 ad852 .long [(.long u0), (.long v2), (.long v3)] := B878
          obtain ⟨La881, hLa881⟩ : ∃ L : Array Slot, L = #[.val (.long l0), .second, .val (.long l1), .second, .val (.long l2), .second, .val (.long u0), .second, .val (.long u1), .second, .val (.int sel), .val (.int mm), .val (.int (1 : Int32)), .val (.int (0 : Int32)), .val (.int (1 : Int32)), .val (.int (1 : Int32)), .val (.long u0), .second, .val (.long u1), .second, .val (.long v2), .second, .val (.long v3), .second, .val (.int (3 : Int32)), .val (.ref ad848), .val (.ref ad852), .val (.int (3 : Int32)), .unset, .unset, .unset, .unset, .unset, .unset, .unset, .unset, .unset, .unset, .unset, .unset] := ⟨_, rfl⟩
          refine own_up (S' := T878.setTop (mkF m 230 La881 [])) (fun t stp => XT.iincV X878.here hx rfl (1 : Int32) (hb hby at_227) rfl (by rw [hLa873]; rfl) (l' := La881) (by rw [hLa873, hLa881]; rfl) stp) ?_
          refine own_up (S' := T878.setTop (mkF m 231 La881 [(.long l0)])) (fun t stp => XT.lloadN X878.here hx rfl (hb hby at_230) (by rw [hLa881]; rfl) stp) ?_
          refine own_up (S' := T878.setTop (mkF m 232 La881 [(.long l1), (.long l0)])) (fun t stp => XT.lloadN X878.here hx rfl (hb hby at_231) (by rw [hLa881]; rfl) stp) ?_
          refine own_up (S' := T878.setTop (mkF m 233 La881 [(.long (l0 ^^^ l1))])) (fun t stp => XT.lxor X878.here hx rfl (hb hby at_232) rfl stp) ?_
          obtain ⟨l3, h_l3⟩ : ∃ z : Int64, z = (l0 ^^^ l1) := ⟨_, rfl⟩
          rw [← h_l3]
          obtain ⟨La882, hLa882⟩ : ∃ L : Array Slot, L = #[.val (.long l0), .second, .val (.long l1), .second, .val (.long l2), .second, .val (.long u0), .second, .val (.long u1), .second, .val (.int sel), .val (.int mm), .val (.int (1 : Int32)), .val (.int (0 : Int32)), .val (.int (1 : Int32)), .val (.int (1 : Int32)), .val (.long u0), .second, .val (.long u1), .second, .val (.long v2), .second, .val (.long v3), .second, .val (.int (3 : Int32)), .val (.ref ad848), .val (.ref ad852), .val (.int (3 : Int32)), .val (.long l3), .second, .unset, .unset, .unset, .unset, .unset, .unset, .unset, .unset, .unset, .unset] := ⟨_, rfl⟩
          refine own_up (S' := T878.setTop (mkF m 235 La882 [])) (fun t stp => XT.lstore X878.here hx rfl (hb hby at_233) rfl (l' := La882) (by rw [hLa881, hLa882]; rfl) stp) ?_
          refine own_up (S' := T878.setTop (mkF m 236 La882 [(.int (4 : Int32))])) (fun t stp => XT.iconstV X878.here hx rfl (4 : Int32) (hb hby at_235) rfl stp) ?_
          refine own_newa X878 hx hZ (ty := .long) rfl (hw _ (List.mem_of_getElem? (i := 1) rfl)) e878 4 (hb hby at_236) (rfl) 4 (by decide) (by decide) (by decide) (by decide) rfl rfl ?_
          intro T883 h883 ad883 hb883 X883 e883 E883 A883
          have ne883_ad848_ad883 : ad848 ≠ ad883 := Nat.ne_of_lt (Nat.lt_of_lt_of_eq (own_Al_lt Al875_880) hb883.symm)
          have ne883_ad852_ad883 : ad852 ≠ ad883 := Nat.ne_of_lt (Nat.lt_of_lt_of_eq (own_Al_lt Al878) hb883.symm)
          have g_ad883 : n0 ≤ ad883 := Nat.le_trans Zn879 (Nat.le_of_eq hb883.symm)
          have Zn884 := Nat.le_trans Zn879 E883.1
          have Al875_885 := own_Al_ext E883 Al875_880
          have Al878_885 := own_Al_ext E883 Al878
          have Al883 : own_Al Z h883 ad883 .long [(.long (0 : Int64)), (.long (0 : Int64)), (.long (0 : Int64)), (.long (0 : Int64))] := A883
          show own_Ends p e below s (own_Q0 Z l0 l1 l2 u0 u1 sel h0 n0) room_1.cells room_1.slots (T883.setTop (mkF m 238 La882 [(.ref ad883)]))
          refine own_up (S' := T883.setTop (mkF m 239 La882 [(.ref ad883), (.ref ad883)])) (fun t stp => XS.dup X883.here hx rfl (hb hby at_238) rfl rfl stp) ?_
          refine own_up (S' := T883.setTop (mkF m 240 La882 [(.int (0 : Int32)), (.ref ad883), (.ref ad883)])) (fun t stp => XT.iconstV X883.here hx rfl (0 : Int32) (hb hby at_239) rfl stp) ?_
          refine own_up (S' := T883.setTop (mkF m 241 La882 [(.long l0), (.int (0 : Int32)), (.ref ad883), (.ref ad883)])) (fun t stp => XT.lloadN X883.here hx rfl (hb hby at_240) (by rw [hLa882]; rfl) stp) ?_
          refine own_stj X883 hx hZ e883 Al883 0 (hb hby at_241) (rfl) (Nat.le_of_ble_eq_true rfl) rfl rfl (g' := (mkF m 242 La882 [(.ref ad883)])) rfl ?_
          intro T886 h886 X886 e886 W886 B886
          have Zn887 := Nat.le_trans Zn884 (Nat.le_of_eq W886.size.symm)
          have Al875_888 := own_Al_oth W886 Al875_885 ne883_ad848_ad883
          have Al878_888 := own_Al_oth W886 Al878_885 ne883_ad852_ad883
          have N886 := Fr.snoc X886 N878 g_ad883
          have Al886 : own_Al Z h886 ad883 .long [(.long l0), (.long (0 : Int64)), (.long (0 : Int64)), (.long (0 : Int64))] := B886
          refine own_up (S' := T886.setTop (mkF m 243 La882 [(.ref ad883), (.ref ad883)])) (fun t stp => XS.dup X886.here hx rfl (hb hby at_242) rfl rfl stp) ?_
          refine own_up (S' := T886.setTop (mkF m 244 La882 [(.int (1 : Int32)), (.ref ad883), (.ref ad883)])) (fun t stp => XT.iconstV X886.here hx rfl (1 : Int32) (hb hby at_243) rfl stp) ?_
          refine own_up (S' := T886.setTop (mkF m 245 La882 [(.long l1), (.int (1 : Int32)), (.ref ad883), (.ref ad883)])) (fun t stp => XT.lloadN X886.here hx rfl (hb hby at_244) (by rw [hLa882]; rfl) stp) ?_
          refine own_stj X886 hx hZ e886 Al886 1 (hb hby at_245) (rfl) (Nat.le_of_ble_eq_true rfl) rfl rfl (g' := (mkF m 246 La882 [(.ref ad883)])) rfl ?_
          intro T889 h889 X889 e889 W889 B889
          have Zn890 := Nat.le_trans Zn887 (Nat.le_of_eq W889.size.symm)
          have Al875_891 := own_Al_oth W889 Al875_888 ne883_ad848_ad883
          have Al878_891 := own_Al_oth W889 Al878_888 ne883_ad852_ad883
          have N889 := Fr.snoc X889 N886 g_ad883
          have Al889 : own_Al Z h889 ad883 .long [(.long l0), (.long l1), (.long (0 : Int64)), (.long (0 : Int64))] := B889
          refine own_up (S' := T889.setTop (mkF m 247 La882 [(.ref ad883), (.ref ad883)])) (fun t stp => XS.dup X889.here hx rfl (hb hby at_246) rfl rfl stp) ?_
          refine own_up (S' := T889.setTop (mkF m 248 La882 [(.int (2 : Int32)), (.ref ad883), (.ref ad883)])) (fun t stp => XT.iconstV X889.here hx rfl (2 : Int32) (hb hby at_247) rfl stp) ?_
          refine own_up (S' := T889.setTop (mkF m 250 La882 [(.long l2), (.int (2 : Int32)), (.ref ad883), (.ref ad883)])) (fun t stp => XT.lload X889.here hx rfl (hb hby at_248) (by rw [hLa882]; rfl) stp) ?_
          refine own_stj X889 hx hZ e889 Al889 2 (hb hby at_250) (rfl) (Nat.le_of_ble_eq_true rfl) rfl rfl (g' := (mkF m 251 La882 [(.ref ad883)])) rfl ?_
          intro T892 h892 X892 e892 W892 B892
          have Zn893 := Nat.le_trans Zn890 (Nat.le_of_eq W892.size.symm)
          have Al875_894 := own_Al_oth W892 Al875_891 ne883_ad848_ad883
          have Al878_894 := own_Al_oth W892 Al878_891 ne883_ad852_ad883
          have N892 := Fr.snoc X892 N889 g_ad883
          have Al892 : own_Al Z h892 ad883 .long [(.long l0), (.long l1), (.long l2), (.long (0 : Int64))] := B892
          refine own_up (S' := T892.setTop (mkF m 252 La882 [(.ref ad883), (.ref ad883)])) (fun t stp => XS.dup X892.here hx rfl (hb hby at_251) rfl rfl stp) ?_
          refine own_up (S' := T892.setTop (mkF m 253 La882 [(.int (3 : Int32)), (.ref ad883), (.ref ad883)])) (fun t stp => XT.iconstV X892.here hx rfl (3 : Int32) (hb hby at_252) rfl stp) ?_
          refine own_up (S' := T892.setTop (mkF m 255 La882 [(.long l3), (.int (3 : Int32)), (.ref ad883), (.ref ad883)])) (fun t stp => XT.lload X892.here hx rfl (hb hby at_253) (by rw [hLa882]; rfl) stp) ?_
          refine own_stj X892 hx hZ e892 Al892 3 (hb hby at_255) (rfl) (Nat.le_of_ble_eq_true rfl) rfl rfl (g' := (mkF m 256 La882 [(.ref ad883)])) rfl ?_
          intro T895 h895 X895 e895 W895 B895
          have Zn896 := Nat.le_trans Zn893 (Nat.le_of_eq W895.size.symm)
          have Al875_897 := own_Al_oth W895 Al875_894 ne883_ad848_ad883
          have Al878_897 := own_Al_oth W895 Al878_894 ne883_ad852_ad883
          have N895 := Fr.snoc X895 N892 g_ad883
          have Al895 : own_Al Z h895 ad883 .long [(.long l0), (.long l1), (.long l2), (.long l3)] := B895
          obtain ⟨La898, hLa898⟩ : ∃ L : Array Slot, L = #[.val (.long l0), .second, .val (.long l1), .second, .val (.long l2), .second, .val (.long u0), .second, .val (.long u1), .second, .val (.int sel), .val (.int mm), .val (.int (1 : Int32)), .val (.int (0 : Int32)), .val (.int (1 : Int32)), .val (.int (1 : Int32)), .val (.long u0), .second, .val (.long u1), .second, .val (.long v2), .second, .val (.long v3), .second, .val (.int (3 : Int32)), .val (.ref ad848), .val (.ref ad852), .val (.int (3 : Int32)), .val (.long l3), .second, .val (.ref ad883), .unset, .unset, .unset, .unset, .unset, .unset, .unset, .unset, .unset] := ⟨_, rfl⟩
          refine own_up (S' := T895.setTop (mkF m 258 La898 [])) (fun t stp => XS.astore X895.here hx rfl (hb hby at_256) rfl rfl (l' := La898) (by rw [hLa882, hLa898]; rfl) stp) ?_
          refine own_new X895 hx hZ hown (hw _ (List.mem_of_getElem? (i := 2) rfl)) (hw _ (List.mem_of_getElem? (i := 3) rfl)) (hw _ (List.mem_of_getElem? (i := 4) rfl)) e895 rfl (hb hby at_258) (by decide) (by decide) ?_
          intro T899 h899 ob hb899 X899 e899 E899 A899 D899
          have ne899_ad848_ob : ad848 ≠ ob := Nat.ne_of_lt (Nat.lt_of_lt_of_eq (own_Al_lt Al875_897) hb899.symm)
          have ne899_ad852_ob : ad852 ≠ ob := Nat.ne_of_lt (Nat.lt_of_lt_of_eq (own_Al_lt Al878_897) hb899.symm)
          have ne899_ad883_ob : ad883 ≠ ob := Nat.ne_of_lt (Nat.lt_of_lt_of_eq (own_Al_lt Al895) hb899.symm)
          have g_ob : n0 ≤ ob := Nat.le_trans Zn896 (Nat.le_of_eq hb899.symm)
          have Zn900 := Nat.le_trans Zn896 E899.1
          have Al875_901 := own_Al_ext E899 Al875_897
          have Al878_901 := own_Al_ext E899 Al878_897
          have Al895_901 := own_Al_ext E899 Al895
          have Fresources_ob : Fld Z h899 ob "com/example/outcry/outcry/combinatorial/Bundle" "resources" "[I" .null := D899 (Or.inr (hw _ (List.mem_of_getElem? (i := 17) rfl))) (ty := (.array .int)) (by decide)
          have Funits_ob : Fld Z h899 ob "com/example/outcry/outcry/combinatorial/Bundle" "units" "[J" .null := D899 (Or.inr (hw _ (List.mem_of_getElem? (i := 19) rfl))) (ty := (.array .long)) (by decide)
          show own_Ends p e below s (own_Q0 Z l0 l1 l2 u0 u1 sel h0 n0) room_1.cells room_1.slots (T899.setTop (mkF m 261 La898 [(.ref ob)]))
          refine own_up (S' := T899.setTop (mkF m 262 La898 [(.ref ob), (.ref ob)])) (fun t stp => XS.dup X899.here hx rfl (hb hby at_261) rfl rfl stp) ?_
          refine own_up (S' := T899.setTop (mkF m 264 La898 [(.ref ad848), (.ref ob), (.ref ob)])) (fun t stp => XS.aload X899.here hx rfl (hb hby at_262) (by rw [hLa898]; rfl) rfl stp) ?_
          refine own_up (S' := T899.setTop (mkF m 266 La898 [(.ref ad852), (.ref ad848), (.ref ob), (.ref ob)])) (fun t stp => XS.aload X899.here hx rfl (hb hby at_264) (by rw [hLa898]; rfl) rfl stp) ?_
          refine own_callI X899 hx hZ rfl hown (hw _ (List.mem_of_getElem? (i := 5) rfl)) (hw _ (List.mem_of_getElem? (i := 6) rfl)) (hw _ (List.mem_of_getElem? (i := 4) rfl)) (hw _ (List.mem_of_getElem? (i := 7) rfl)) (by decide) e899 (rm2 l Z a0 hw [] ob ad848 ad852 h899 n0 Zn900 Fresources_ob Funits_ob A899 g_ob) 1 ob [(.ref ad848), (.ref ad852)] [(.ref ob)] (hb hby at_266) (lenOf own_pd1 rfl) (by decide) (by decide) (by decide) (by decide) rfl (by rw [hml, hLa898]; rfl) rfl (by show 2 * 0 + _ ≤ _; exact Nat.le_of_eq rfl) rfl ?_
          intro T902 L902 r902 X902 q902
          obtain ⟨rfl, M902, K902, G902a_902, G902b_902⟩ := q902
          have N902 := Fr.app N895 M902
          have Zn903 := Nat.le_trans Zn900 K902.1
          have Al875_904 := own_Al_keep K902 Al875_901 (ninS ne899_ad848_ob nin0)
          have Al878_904 := own_Al_keep K902 Al878_901 (ninS ne899_ad852_ob nin0)
          have Al895_904 := own_Al_keep K902 Al895_901 (ninS ne899_ad883_ob nin0)
          have A899_904 := A899.keep K902
          show own_Ends p e below s (own_Q0 Z l0 l1 l2 u0 u1 sel h0 n0) room_1.cells room_1.slots (T902.setTop (mkF m 269 La898 [(.ref ob)]))
          obtain ⟨La905, hLa905⟩ : ∃ L : Array Slot, L = #[.val (.long l0), .second, .val (.long l1), .second, .val (.long l2), .second, .val (.long u0), .second, .val (.long u1), .second, .val (.int sel), .val (.int mm), .val (.int (1 : Int32)), .val (.int (0 : Int32)), .val (.int (1 : Int32)), .val (.int (1 : Int32)), .val (.long u0), .second, .val (.long u1), .second, .val (.long v2), .second, .val (.long v3), .second, .val (.int (3 : Int32)), .val (.ref ad848), .val (.ref ad852), .val (.int (3 : Int32)), .val (.long l3), .second, .val (.ref ad883), .val (.ref ob), .unset, .unset, .unset, .unset, .unset, .unset, .unset, .unset] := ⟨_, rfl⟩
          refine own_up (S' := T902.setTop (mkF m 271 La905 [])) (fun t stp => XS.astore X902.here hx rfl (hb hby at_269) rfl rfl (l' := La905) (by rw [hLa898, hLa905]; rfl) stp) ?_
          refine own_up (S' := T902.setTop (mkF m 273 La905 [(.ref ob)])) (fun t stp => XS.aload X902.here hx rfl (hb hby at_271) (by rw [hLa905]; rfl) rfl stp) ?_
          refine own_up (S' := T902.setTop (mkF m 275 La905 [(.ref ad883), (.ref ob)])) (fun t stp => XS.aload X902.here hx rfl (hb hby at_273) (by rw [hLa905]; rfl) rfl stp) ?_
          refine own_callV X902 hx hZ hown (hw _ (List.mem_of_getElem? (i := 20) rfl)) (hw _ (List.mem_of_getElem? (i := 21) rfl)) (hw _ (List.mem_of_getElem? (i := 23) rfl)) (hw _ (List.mem_of_getElem? (i := 22) rfl)) (hw _ (List.mem_of_getElem? (i := 4) rfl)) (hw _ (List.mem_of_getElem? (i := 24) rfl)) (by decide) rfl (rm13 l Z a0 hw [] ob ad883 ad848 ad852 [(.long l0), (.long l1), (.long l2), (.long l3)] (0 : Int32) u0 (0) l0 (2 : Int32) v2 (2) l2 (3 : Int32) v3 (3) l3 T902.heap n0 Zn903 G902a_902 G902b_902 Al875_904 Al878_904 Al895_904 g_ad883 ne883_ad848_ad883 ne883_ad852_ad883 (Ne.symm ne899_ad883_ob) (rfl) (rfl) (rfl) (rfl) (rfl) (rfl)) 0 A899_904 [(.ref ad883)] [] (hb hby at_275) (lenOf own_pd2 rfl) (by decide) (by decide) (by decide) (by decide) rfl (by rw [hml, hLa905]; rfl) rfl (by show 2 * 0 + _ ≤ _; exact Nat.le_of_eq rfl) rfl ?_
          intro T906 L906 r906 X906 q906
          obtain ⟨rfl, M906, K906, G906a_906⟩ := q906
          have N906 := Fr.app N902 M906
          have Zn907 := Nat.le_trans Zn903 K906.1
          have Al875_908 := own_Al_keep K906 Al875_904 (ninS ne883_ad848_ad883 nin0)
          have Al878_908 := own_Al_keep K906 Al878_904 (ninS ne883_ad852_ad883 nin0)
          have A899_908 := A899_904.keep K906
          have G902a_908 := G902a_902.keep K906 (ninS (Ne.symm ne899_ad883_ob) nin0)
          have G902b_908 := G902b_902.keep K906 (ninS (Ne.symm ne899_ad883_ob) nin0)
          show own_Ends p e below s (own_Q0 Z l0 l1 l2 u0 u1 sel h0 n0) room_1.cells room_1.slots (T906.setTop (mkF m 278 La905 []))
          have Tk906 : own_Al Z T906.heap ad883 .long [(.long (l0 - u0)), (.long l1), (.long (l2 - v2)), (.long (l3 - v3))] := G906a_906
          refine own_up (S' := T906.setTop (mkF m 280 La905 [(.int (1 : Int32))])) (fun t stp => XS.iload X906.here hx rfl (hb hby at_278) (by rw [hLa905]; rfl) stp) ?_
          have hc280_909 : ¬ ((1 : Int32) = 0) := hc88_843
          refine own_up (S' := T906.setTop (mkF m 283 La905 [])) (fun t stp => XS.ifNo X906.here hx rfl (hb hby at_280) rfl (XT.i0_eq_f hc280_909) stp) ?_
          refine own_up (S' := T906.setTop (mkF m 284 La905 [(.long l0)])) (fun t stp => XT.lloadN X906.here hx rfl (hb hby at_283) (by rw [hLa905]; rfl) stp) ?_
          refine own_up (S' := T906.setTop (mkF m 286 La905 [(.long u0), (.long l0)])) (fun t stp => XT.lload X906.here hx rfl (hb hby at_284) (by rw [hLa905]; rfl) stp) ?_
          refine own_up (S' := T906.setTop (mkF m 287 La905 [(.long (l0 - u0))])) (fun t stp => XT.lsub X906.here hx rfl (hb hby at_286) rfl stp) ?_
          refine own_up (S' := T906.setTop (mkF m 291 La905 [(.long (l0 - u0))])) (fun t stp => XS.goto X906.here hx rfl (pc0 := 287) (pc' := 291) rfl (hb hby at_287) (by decide) (by decide) stp) ?_
          obtain ⟨e0q, h_e0q⟩ : ∃ z : Int64, z = (l0 - u0) := ⟨_, rfl⟩
          rw [← h_e0q]
          obtain ⟨La910, hLa910⟩ : ∃ L : Array Slot, L = #[.val (.long l0), .second, .val (.long l1), .second, .val (.long l2), .second, .val (.long u0), .second, .val (.long u1), .second, .val (.int sel), .val (.int mm), .val (.int (1 : Int32)), .val (.int (0 : Int32)), .val (.int (1 : Int32)), .val (.int (1 : Int32)), .val (.long u0), .second, .val (.long u1), .second, .val (.long v2), .second, .val (.long v3), .second, .val (.int (3 : Int32)), .val (.ref ad848), .val (.ref ad852), .val (.int (3 : Int32)), .val (.long l3), .second, .val (.ref ad883), .val (.ref ob), .val (.long e0q), .second, .unset, .unset, .unset, .unset, .unset, .unset] := ⟨_, rfl⟩
          refine own_up (S' := T906.setTop (mkF m 293 La910 [])) (fun t stp => XT.lstore X906.here hx rfl (hb hby at_291) rfl (l' := La910) (by rw [hLa905, hLa910]; rfl) stp) ?_
          refine own_up (S' := T906.setTop (mkF m 295 La910 [(.int (0 : Int32))])) (fun t stp => XS.iload X906.here hx rfl (hb hby at_293) (by rw [hLa910]; rfl) stp) ?_
          have hc295_911 : (0 : Int32) = 0 := hc98_844
          refine own_up (S' := T906.setTop (mkF m 305 La910 [])) (fun t stp => XS.ifYes X906.here hx rfl (pc0 := 295) (pc' := 305) rfl (hb hby at_295) rfl (XT.i0_eq_t hc295_911) (by decide) (by decide) stp) ?_
          refine own_up (S' := T906.setTop (mkF m 306 La910 [(.long l1)])) (fun t stp => XT.lloadN X906.here hx rfl (hb hby at_305) (by rw [hLa910]; rfl) stp) ?_
          obtain ⟨La912, hLa912⟩ : ∃ L : Array Slot, L = #[.val (.long l0), .second, .val (.long l1), .second, .val (.long l2), .second, .val (.long u0), .second, .val (.long u1), .second, .val (.int sel), .val (.int mm), .val (.int (1 : Int32)), .val (.int (0 : Int32)), .val (.int (1 : Int32)), .val (.int (1 : Int32)), .val (.long u0), .second, .val (.long u1), .second, .val (.long v2), .second, .val (.long v3), .second, .val (.int (3 : Int32)), .val (.ref ad848), .val (.ref ad852), .val (.int (3 : Int32)), .val (.long l3), .second, .val (.ref ad883), .val (.ref ob), .val (.long e0q), .second, .val (.long l1), .second, .unset, .unset, .unset, .unset] := ⟨_, rfl⟩
          refine own_up (S' := T906.setTop (mkF m 308 La912 [])) (fun t stp => XT.lstore X906.here hx rfl (hb hby at_306) rfl (l' := La912) (by rw [hLa910, hLa912]; rfl) stp) ?_
          refine own_up (S' := T906.setTop (mkF m 310 La912 [(.int (1 : Int32))])) (fun t stp => XS.iload X906.here hx rfl (hb hby at_308) (by rw [hLa912]; rfl) stp) ?_
          have hc310_913 : ¬ ((1 : Int32) = 0) := hc88_843
          refine own_up (S' := T906.setTop (mkF m 313 La912 [])) (fun t stp => XS.ifNo X906.here hx rfl (hb hby at_310) rfl (XT.i0_eq_f hc310_913) stp) ?_
          refine own_up (S' := T906.setTop (mkF m 315 La912 [(.long l2)])) (fun t stp => XT.lload X906.here hx rfl (hb hby at_313) (by rw [hLa912]; rfl) stp) ?_
          refine own_up (S' := T906.setTop (mkF m 317 La912 [(.long v2), (.long l2)])) (fun t stp => XT.lload X906.here hx rfl (hb hby at_315) (by rw [hLa912]; rfl) stp) ?_
          refine own_up (S' := T906.setTop (mkF m 318 La912 [(.long (l2 - v2))])) (fun t stp => XT.lsub X906.here hx rfl (hb hby at_317) rfl stp) ?_
          refine own_up (S' := T906.setTop (mkF m 323 La912 [(.long (l2 - v2))])) (fun t stp => XS.goto X906.here hx rfl (pc0 := 318) (pc' := 323) rfl (hb hby at_318) (by decide) (by decide) stp) ?_
          obtain ⟨e2q, h_e2q⟩ : ∃ z : Int64, z = (l2 - v2) := ⟨_, rfl⟩
          rw [← h_e2q]
          obtain ⟨La914, hLa914⟩ : ∃ L : Array Slot, L = #[.val (.long l0), .second, .val (.long l1), .second, .val (.long l2), .second, .val (.long u0), .second, .val (.long u1), .second, .val (.int sel), .val (.int mm), .val (.int (1 : Int32)), .val (.int (0 : Int32)), .val (.int (1 : Int32)), .val (.int (1 : Int32)), .val (.long u0), .second, .val (.long u1), .second, .val (.long v2), .second, .val (.long v3), .second, .val (.int (3 : Int32)), .val (.ref ad848), .val (.ref ad852), .val (.int (3 : Int32)), .val (.long l3), .second, .val (.ref ad883), .val (.ref ob), .val (.long e0q), .second, .val (.long l1), .second, .val (.long e2q), .second, .unset, .unset] := ⟨_, rfl⟩
          refine own_up (S' := T906.setTop (mkF m 325 La914 [])) (fun t stp => XT.lstore X906.here hx rfl (hb hby at_323) rfl (l' := La914) (by rw [hLa912, hLa914]; rfl) stp) ?_
          refine own_up (S' := T906.setTop (mkF m 327 La914 [(.int (1 : Int32))])) (fun t stp => XS.iload X906.here hx rfl (hb hby at_325) (by rw [hLa914]; rfl) stp) ?_
          have hc327_915 : ¬ ((1 : Int32) = 0) := hc88_843
          refine own_up (S' := T906.setTop (mkF m 330 La914 [])) (fun t stp => XS.ifNo X906.here hx rfl (hb hby at_327) rfl (XT.i0_eq_f hc327_915) stp) ?_
          refine own_up (S' := T906.setTop (mkF m 332 La914 [(.long l3)])) (fun t stp => XT.lload X906.here hx rfl (hb hby at_330) (by rw [hLa914]; rfl) stp) ?_
          refine own_up (S' := T906.setTop (mkF m 334 La914 [(.long v3), (.long l3)])) (fun t stp => XT.lload X906.here hx rfl (hb hby at_332) (by rw [hLa914]; rfl) stp) ?_
          refine own_up (S' := T906.setTop (mkF m 335 La914 [(.long (l3 - v3))])) (fun t stp => XT.lsub X906.here hx rfl (hb hby at_334) rfl stp) ?_
          refine own_up (S' := T906.setTop (mkF m 340 La914 [(.long (l3 - v3))])) (fun t stp => XS.goto X906.here hx rfl (pc0 := 335) (pc' := 340) rfl (hb hby at_335) (by decide) (by decide) stp) ?_
          obtain ⟨e3q, h_e3q⟩ : ∃ z : Int64, z = (l3 - v3) := ⟨_, rfl⟩
          rw [← h_e3q]
          obtain ⟨La916, hLa916⟩ : ∃ L : Array Slot, L = #[.val (.long l0), .second, .val (.long l1), .second, .val (.long l2), .second, .val (.long u0), .second, .val (.long u1), .second, .val (.int sel), .val (.int mm), .val (.int (1 : Int32)), .val (.int (0 : Int32)), .val (.int (1 : Int32)), .val (.int (1 : Int32)), .val (.long u0), .second, .val (.long u1), .second, .val (.long v2), .second, .val (.long v3), .second, .val (.int (3 : Int32)), .val (.ref ad848), .val (.ref ad852), .val (.int (3 : Int32)), .val (.long l3), .second, .val (.ref ad883), .val (.ref ob), .val (.long e0q), .second, .val (.long l1), .second, .val (.long e2q), .second, .val (.long e3q), .second] := ⟨_, rfl⟩
          refine own_up (S' := T906.setTop (mkF m 342 La916 [])) (fun t stp => XT.lstore X906.here hx rfl (hb hby at_340) rfl (l' := La916) (by rw [hLa914, hLa916]; rfl) stp) ?_
          refine own_up (S' := T906.setTop (mkF m 344 La916 [(.ref ad883)])) (fun t stp => XS.aload X906.here hx rfl (hb hby at_342) (by rw [hLa916]; rfl) rfl stp) ?_
          refine own_len X906 hx hZ rfl Tk906 (4 : Int32) (hb hby at_344) (rfl) rfl rfl (g' := (mkF m 345 La916 [(.int (4 : Int32))])) rfl ?_
          refine own_up (S' := T906.setTop (mkF m 346 La916 [(.int (4 : Int32)), (.int (4 : Int32))])) (fun t stp => XT.iconstV X906.here hx rfl (4 : Int32) (hb hby at_345) rfl stp) ?_
          have hc346_917 : (4 : Int32) = (4 : Int32) := rfl
          refine own_up (S' := T906.setTop (mkF m 349 La916 [])) (fun t stp => XS.icmpNo X906.here hx rfl (hb hby at_346) rfl (XT.ii_ne_f hc346_917) stp) ?_
          refine own_up (S' := T906.setTop (mkF m 351 La916 [(.ref ad883)])) (fun t stp => XS.aload X906.here hx rfl (hb hby at_349) (by rw [hLa916]; rfl) rfl stp) ?_
          refine own_up (S' := T906.setTop (mkF m 352 La916 [(.int (0 : Int32)), (.ref ad883)])) (fun t stp => XT.iconstV X906.here hx rfl (0 : Int32) (hb hby at_351) rfl stp) ?_
          refine own_ldj X906 hx hZ rfl Tk906 (v := (.long (l0 - u0))) 0 (hb hby at_352) (rfl) (rfl) rfl rfl (g' := (mkF m 353 La916 [(.long (l0 - u0))])) rfl ?_
          refine own_up (S' := T906.setTop (mkF m 355 La916 [(.long e0q), (.long (l0 - u0))])) (fun t stp => XT.lload X906.here hx rfl (hb hby at_353) (by rw [hLa916]; rfl) stp) ?_
          refine own_up (S' := T906.setTop (mkF m 356 La916 [(.int (XT.cmpL (l0 - u0) e0q))])) (fun t stp => XT.lcmp X906.here hx rfl (hb hby at_355) rfl stp) ?_
          have hc356_918 : (l0 - u0) = e0q := h_e0q.symm
          have ihc356_918 : (l0 - u0).toInt = e0q.toInt := own_leq hc356_918
          refine own_up (S' := T906.setTop (mkF m 359 La916 [])) (fun t stp => XS.ifNo X906.here hx rfl (hb hby at_356) rfl (XT.ll_ne_f hc356_918) stp) ?_
          refine own_up (S' := T906.setTop (mkF m 361 La916 [(.ref ad883)])) (fun t stp => XS.aload X906.here hx rfl (hb hby at_359) (by rw [hLa916]; rfl) rfl stp) ?_
          refine own_up (S' := T906.setTop (mkF m 362 La916 [(.int (1 : Int32)), (.ref ad883)])) (fun t stp => XT.iconstV X906.here hx rfl (1 : Int32) (hb hby at_361) rfl stp) ?_
          refine own_ldj X906 hx hZ rfl Tk906 (v := (.long l1)) 1 (hb hby at_362) (rfl) (rfl) rfl rfl (g' := (mkF m 363 La916 [(.long l1)])) rfl ?_
          refine own_up (S' := T906.setTop (mkF m 365 La916 [(.long l1), (.long l1)])) (fun t stp => XT.lload X906.here hx rfl (hb hby at_363) (by rw [hLa916]; rfl) stp) ?_
          refine own_up (S' := T906.setTop (mkF m 366 La916 [(.int (XT.cmpL l1 l1))])) (fun t stp => XT.lcmp X906.here hx rfl (hb hby at_365) rfl stp) ?_
          have hc366_919 : l1 = l1 := rfl
          have ihc366_919 : l1.toInt = l1.toInt := own_leq hc366_919
          refine own_up (S' := T906.setTop (mkF m 369 La916 [])) (fun t stp => XS.ifNo X906.here hx rfl (hb hby at_366) rfl (XT.ll_ne_f hc366_919) stp) ?_
          refine own_up (S' := T906.setTop (mkF m 371 La916 [(.ref ad883)])) (fun t stp => XS.aload X906.here hx rfl (hb hby at_369) (by rw [hLa916]; rfl) rfl stp) ?_
          refine own_up (S' := T906.setTop (mkF m 372 La916 [(.int (2 : Int32)), (.ref ad883)])) (fun t stp => XT.iconstV X906.here hx rfl (2 : Int32) (hb hby at_371) rfl stp) ?_
          refine own_ldj X906 hx hZ rfl Tk906 (v := (.long (l2 - v2))) 2 (hb hby at_372) (rfl) (rfl) rfl rfl (g' := (mkF m 373 La916 [(.long (l2 - v2))])) rfl ?_
          refine own_up (S' := T906.setTop (mkF m 375 La916 [(.long e2q), (.long (l2 - v2))])) (fun t stp => XT.lload X906.here hx rfl (hb hby at_373) (by rw [hLa916]; rfl) stp) ?_
          refine own_up (S' := T906.setTop (mkF m 376 La916 [(.int (XT.cmpL (l2 - v2) e2q))])) (fun t stp => XT.lcmp X906.here hx rfl (hb hby at_375) rfl stp) ?_
          have hc376_920 : (l2 - v2) = e2q := h_e2q.symm
          have ihc376_920 : (l2 - v2).toInt = e2q.toInt := own_leq hc376_920
          refine own_up (S' := T906.setTop (mkF m 379 La916 [])) (fun t stp => XS.ifNo X906.here hx rfl (hb hby at_376) rfl (XT.ll_ne_f hc376_920) stp) ?_
          refine own_up (S' := T906.setTop (mkF m 381 La916 [(.ref ad883)])) (fun t stp => XS.aload X906.here hx rfl (hb hby at_379) (by rw [hLa916]; rfl) rfl stp) ?_
          refine own_up (S' := T906.setTop (mkF m 382 La916 [(.int (3 : Int32)), (.ref ad883)])) (fun t stp => XT.iconstV X906.here hx rfl (3 : Int32) (hb hby at_381) rfl stp) ?_
          refine own_ldj X906 hx hZ rfl Tk906 (v := (.long (l3 - v3))) 3 (hb hby at_382) (rfl) (rfl) rfl rfl (g' := (mkF m 383 La916 [(.long (l3 - v3))])) rfl ?_
          refine own_up (S' := T906.setTop (mkF m 385 La916 [(.long e3q), (.long (l3 - v3))])) (fun t stp => XT.lload X906.here hx rfl (hb hby at_383) (by rw [hLa916]; rfl) stp) ?_
          refine own_up (S' := T906.setTop (mkF m 386 La916 [(.int (XT.cmpL (l3 - v3) e3q))])) (fun t stp => XT.lcmp X906.here hx rfl (hb hby at_385) rfl stp) ?_
          have hc386_921 : (l3 - v3) = e3q := h_e3q.symm
          have ihc386_921 : (l3 - v3).toInt = e3q.toInt := own_leq hc386_921
          refine own_up (S' := T906.setTop (mkF m 389 La916 [])) (fun t stp => XS.ifNo X906.here hx rfl (hb hby at_386) rfl (XT.ll_ne_f hc386_921) stp) ?_
          refine own_up (S' := T906.setTop (mkF m 390 La916 [(.int (1 : Int32))])) (fun t stp => XT.iconstV X906.here hx rfl (1 : Int32) (hb hby at_389) rfl stp) ?_
          refine own_up (S' := T906.setTop (mkF m 394 La916 [(.int (1 : Int32))])) (fun t stp => XS.goto X906.here hx rfl (pc0 := 390) (pc' := 394) rfl (hb hby at_390) (by decide) (by decide) stp) ?_
          refine own_retN X906 hx hlk (t := .boolean) hret (by simp) (z' := (1 : Int32)) rfl (hb hby at_394) (by decide) (by decide) ?_
          show own_Q0 Z l0 l1 l2 u0 u1 sel h0 n0 _ T906.heap _
          exact ⟨rfl, N906⟩
    · have ihc25_607 : (mm &&& (2 : Int32)).toInt ≠ 0 := own_ine hc25_607
      refine own_up (S' := T0.setTop (mkF m 28 La606 [])) (fun t stp => XS.ifNo X0.here hx rfl (hb hby at_25) rfl (XT.i0_eq_f hc25_607) stp) ?_
      refine own_up (S' := T0.setTop (mkF m 29 La606 [(.int (1 : Int32))])) (fun t stp => XT.iconstV X0.here hx rfl (1 : Int32) (hb hby at_28) rfl stp) ?_
      refine own_up (S' := T0.setTop (mkF m 33 La606 [(.int (1 : Int32))])) (fun t stp => XS.goto X0.here hx rfl (pc0 := 29) (pc' := 33) rfl (hb hby at_29) (by decide) (by decide) stp) ?_
      obtain ⟨La922, hLa922⟩ : ∃ L : Array Slot, L = #[.val (.long l0), .second, .val (.long l1), .second, .val (.long l2), .second, .val (.long u0), .second, .val (.long u1), .second, .val (.int sel), .val (.int mm), .val (.int (1 : Int32)), .val (.int (1 : Int32)), .unset, .unset, .unset, .unset, .unset, .unset, .unset, .unset, .unset, .unset, .unset, .unset, .unset, .unset, .unset, .unset, .unset, .unset, .unset, .unset, .unset, .unset, .unset, .unset, .unset, .unset] := ⟨_, rfl⟩
      refine own_up (S' := T0.setTop (mkF m 35 La922 [])) (fun t stp => XS.istore X0.here hx rfl (hb hby at_33) rfl (l' := La922) (by rw [hLa606, hLa922]; rfl) stp) ?_
      refine own_up (S' := T0.setTop (mkF m 37 La922 [(.int mm)])) (fun t stp => XS.iload X0.here hx rfl (hb hby at_35) (by rw [hLa922]; rfl) stp) ?_
      refine own_up (S' := T0.setTop (mkF m 38 La922 [(.int (4 : Int32)), (.int mm)])) (fun t stp => XT.iconstV X0.here hx rfl (4 : Int32) (hb hby at_37) rfl stp) ?_
      refine own_up (S' := T0.setTop (mkF m 39 La922 [(.int (mm &&& (4 : Int32)))])) (fun t stp => XS.iand X0.here hx rfl (hb hby at_38) rfl stp) ?_
      by_cases hc39_923 : (mm &&& (4 : Int32)) = 0
      · have ihc39_923 : (mm &&& (4 : Int32)).toInt = 0 := own_ieq hc39_923
        refine own_up (S' := T0.setTop (mkF m 46 La922 [])) (fun t stp => XS.ifYes X0.here hx rfl (pc0 := 39) (pc' := 46) rfl (hb hby at_39) rfl (XT.i0_eq_t hc39_923) (by decide) (by decide) stp) ?_
        refine own_up (S' := T0.setTop (mkF m 47 La922 [(.int (0 : Int32))])) (fun t stp => XT.iconstV X0.here hx rfl (0 : Int32) (hb hby at_46) rfl stp) ?_
        obtain ⟨La924, hLa924⟩ : ∃ L : Array Slot, L = #[.val (.long l0), .second, .val (.long l1), .second, .val (.long l2), .second, .val (.long u0), .second, .val (.long u1), .second, .val (.int sel), .val (.int mm), .val (.int (1 : Int32)), .val (.int (1 : Int32)), .val (.int (0 : Int32)), .unset, .unset, .unset, .unset, .unset, .unset, .unset, .unset, .unset, .unset, .unset, .unset, .unset, .unset, .unset, .unset, .unset, .unset, .unset, .unset, .unset, .unset, .unset, .unset, .unset] := ⟨_, rfl⟩
        refine own_up (S' := T0.setTop (mkF m 49 La924 [])) (fun t stp => XS.istore X0.here hx rfl (hb hby at_47) rfl (l' := La924) (by rw [hLa922, hLa924]; rfl) stp) ?_
        refine own_up (S' := T0.setTop (mkF m 51 La924 [(.int mm)])) (fun t stp => XS.iload X0.here hx rfl (hb hby at_49) (by rw [hLa924]; rfl) stp) ?_
        refine own_up (S' := T0.setTop (mkF m 53 La924 [(.int (8 : Int32)), (.int mm)])) (fun t stp => XT.bipushV X0.here hx rfl (8 : Int32) (hb hby at_51) rfl stp) ?_
        refine own_up (S' := T0.setTop (mkF m 54 La924 [(.int (mm &&& (8 : Int32)))])) (fun t stp => XS.iand X0.here hx rfl (hb hby at_53) rfl stp) ?_
        by_cases hc54_925 : (mm &&& (8 : Int32)) = 0
        · have ihc54_925 : (mm &&& (8 : Int32)).toInt = 0 := own_ieq hc54_925
          refine own_up (S' := T0.setTop (mkF m 61 La924 [])) (fun t stp => XS.ifYes X0.here hx rfl (pc0 := 54) (pc' := 61) rfl (hb hby at_54) rfl (XT.i0_eq_t hc54_925) (by decide) (by decide) stp) ?_
          refine own_up (S' := T0.setTop (mkF m 62 La924 [(.int (0 : Int32))])) (fun t stp => XT.iconstV X0.here hx rfl (0 : Int32) (hb hby at_61) rfl stp) ?_
          obtain ⟨La926, hLa926⟩ : ∃ L : Array Slot, L = #[.val (.long l0), .second, .val (.long l1), .second, .val (.long l2), .second, .val (.long u0), .second, .val (.long u1), .second, .val (.int sel), .val (.int mm), .val (.int (1 : Int32)), .val (.int (1 : Int32)), .val (.int (0 : Int32)), .val (.int (0 : Int32)), .unset, .unset, .unset, .unset, .unset, .unset, .unset, .unset, .unset, .unset, .unset, .unset, .unset, .unset, .unset, .unset, .unset, .unset, .unset, .unset, .unset, .unset, .unset, .unset] := ⟨_, rfl⟩
          refine own_up (S' := T0.setTop (mkF m 64 La926 [])) (fun t stp => XS.istore X0.here hx rfl (hb hby at_62) rfl (l' := La926) (by rw [hLa924, hLa926]; rfl) stp) ?_
          refine own_up (S' := T0.setTop (mkF m 66 La926 [(.long u0)])) (fun t stp => XT.lload X0.here hx rfl (hb hby at_64) (by rw [hLa926]; rfl) stp) ?_
          obtain ⟨La927, hLa927⟩ : ∃ L : Array Slot, L = #[.val (.long l0), .second, .val (.long l1), .second, .val (.long l2), .second, .val (.long u0), .second, .val (.long u1), .second, .val (.int sel), .val (.int mm), .val (.int (1 : Int32)), .val (.int (1 : Int32)), .val (.int (0 : Int32)), .val (.int (0 : Int32)), .val (.long u0), .second, .unset, .unset, .unset, .unset, .unset, .unset, .unset, .unset, .unset, .unset, .unset, .unset, .unset, .unset, .unset, .unset, .unset, .unset, .unset, .unset, .unset, .unset] := ⟨_, rfl⟩
          refine own_up (S' := T0.setTop (mkF m 68 La927 [])) (fun t stp => XT.lstore X0.here hx rfl (hb hby at_66) rfl (l' := La927) (by rw [hLa926, hLa927]; rfl) stp) ?_
          refine own_up (S' := T0.setTop (mkF m 70 La927 [(.long u1)])) (fun t stp => XT.lload X0.here hx rfl (hb hby at_68) (by rw [hLa927]; rfl) stp) ?_
          obtain ⟨La928, hLa928⟩ : ∃ L : Array Slot, L = #[.val (.long l0), .second, .val (.long l1), .second, .val (.long l2), .second, .val (.long u0), .second, .val (.long u1), .second, .val (.int sel), .val (.int mm), .val (.int (1 : Int32)), .val (.int (1 : Int32)), .val (.int (0 : Int32)), .val (.int (0 : Int32)), .val (.long u0), .second, .val (.long u1), .second, .unset, .unset, .unset, .unset, .unset, .unset, .unset, .unset, .unset, .unset, .unset, .unset, .unset, .unset, .unset, .unset, .unset, .unset, .unset, .unset] := ⟨_, rfl⟩
          refine own_up (S' := T0.setTop (mkF m 72 La928 [])) (fun t stp => XT.lstore X0.here hx rfl (hb hby at_70) rfl (l' := La928) (by rw [hLa927, hLa928]; rfl) stp) ?_
          refine own_up (S' := T0.setTop (mkF m 74 La928 [(.long u0)])) (fun t stp => XT.lload X0.here hx rfl (hb hby at_72) (by rw [hLa928]; rfl) stp) ?_
          refine own_up (S' := T0.setTop (mkF m 76 La928 [(.long u1), (.long u0)])) (fun t stp => XT.lload X0.here hx rfl (hb hby at_74) (by rw [hLa928]; rfl) stp) ?_
          refine own_up (S' := T0.setTop (mkF m 77 La928 [(.long (u0 - u1))])) (fun t stp => XT.lsub X0.here hx rfl (hb hby at_76) rfl stp) ?_
          obtain ⟨v2, h_v2⟩ : ∃ z : Int64, z = (u0 - u1) := ⟨_, rfl⟩
          rw [← h_v2]
          obtain ⟨La929, hLa929⟩ : ∃ L : Array Slot, L = #[.val (.long l0), .second, .val (.long l1), .second, .val (.long l2), .second, .val (.long u0), .second, .val (.long u1), .second, .val (.int sel), .val (.int mm), .val (.int (1 : Int32)), .val (.int (1 : Int32)), .val (.int (0 : Int32)), .val (.int (0 : Int32)), .val (.long u0), .second, .val (.long u1), .second, .val (.long v2), .second, .unset, .unset, .unset, .unset, .unset, .unset, .unset, .unset, .unset, .unset, .unset, .unset, .unset, .unset, .unset, .unset, .unset, .unset] := ⟨_, rfl⟩
          refine own_up (S' := T0.setTop (mkF m 79 La929 [])) (fun t stp => XT.lstore X0.here hx rfl (hb hby at_77) rfl (l' := La929) (by rw [hLa928, hLa929]; rfl) stp) ?_
          refine own_up (S' := T0.setTop (mkF m 81 La929 [(.long u1)])) (fun t stp => XT.lload X0.here hx rfl (hb hby at_79) (by rw [hLa929]; rfl) stp) ?_
          refine own_up (S' := T0.setTop (mkF m 83 La929 [(.long l2), (.long u1)])) (fun t stp => XT.lload X0.here hx rfl (hb hby at_81) (by rw [hLa929]; rfl) stp) ?_
          refine own_up (S' := T0.setTop (mkF m 84 La929 [(.long (u1 ^^^ l2))])) (fun t stp => XT.lxor X0.here hx rfl (hb hby at_83) rfl stp) ?_
          obtain ⟨v3, h_v3⟩ : ∃ z : Int64, z = (u1 ^^^ l2) := ⟨_, rfl⟩
          rw [← h_v3]
          obtain ⟨La930, hLa930⟩ : ∃ L : Array Slot, L = #[.val (.long l0), .second, .val (.long l1), .second, .val (.long l2), .second, .val (.long u0), .second, .val (.long u1), .second, .val (.int sel), .val (.int mm), .val (.int (1 : Int32)), .val (.int (1 : Int32)), .val (.int (0 : Int32)), .val (.int (0 : Int32)), .val (.long u0), .second, .val (.long u1), .second, .val (.long v2), .second, .val (.long v3), .second, .unset, .unset, .unset, .unset, .unset, .unset, .unset, .unset, .unset, .unset, .unset, .unset, .unset, .unset, .unset, .unset] := ⟨_, rfl⟩
          refine own_up (S' := T0.setTop (mkF m 86 La930 [])) (fun t stp => XT.lstore X0.here hx rfl (hb hby at_84) rfl (l' := La930) (by rw [hLa929, hLa930]; rfl) stp) ?_
          refine own_up (S' := T0.setTop (mkF m 88 La930 [(.int (1 : Int32))])) (fun t stp => XS.iload X0.here hx rfl (hb hby at_86) (by rw [hLa930]; rfl) stp) ?_
          have hc88_931 : ¬ ((1 : Int32) = 0) := by decide
          refine own_up (S' := T0.setTop (mkF m 91 La930 [])) (fun t stp => XS.ifNo X0.here hx rfl (hb hby at_88) rfl (XT.i0_eq_f hc88_931) stp) ?_
          refine own_up (S' := T0.setTop (mkF m 92 La930 [(.int (1 : Int32))])) (fun t stp => XT.iconstV X0.here hx rfl (1 : Int32) (hb hby at_91) rfl stp) ?_
          refine own_up (S' := T0.setTop (mkF m 96 La930 [(.int (1 : Int32))])) (fun t stp => XS.goto X0.here hx rfl (pc0 := 92) (pc' := 96) rfl (hb hby at_92) (by decide) (by decide) stp) ?_
          refine own_up (S' := T0.setTop (mkF m 98 La930 [(.int (1 : Int32)), (.int (1 : Int32))])) (fun t stp => XS.iload X0.here hx rfl (hb hby at_96) (by rw [hLa930]; rfl) stp) ?_
          have hc98_932 : ¬ ((1 : Int32) = 0) := hc88_931
          refine own_up (S' := T0.setTop (mkF m 101 La930 [(.int (1 : Int32))])) (fun t stp => XS.ifNo X0.here hx rfl (hb hby at_98) rfl (XT.i0_eq_f hc98_932) stp) ?_
          refine own_up (S' := T0.setTop (mkF m 102 La930 [(.int (1 : Int32)), (.int (1 : Int32))])) (fun t stp => XT.iconstV X0.here hx rfl (1 : Int32) (hb hby at_101) rfl stp) ?_
          refine own_up (S' := T0.setTop (mkF m 106 La930 [(.int (1 : Int32)), (.int (1 : Int32))])) (fun t stp => XS.goto X0.here hx rfl (pc0 := 102) (pc' := 106) rfl (hb hby at_102) (by decide) (by decide) stp) ?_
          refine own_up (S' := T0.setTop (mkF m 107 La930 [(.int ((1 : Int32) + (1 : Int32)))])) (fun t stp => XS.iadd X0.here hx rfl (hb hby at_106) rfl stp) ?_
          refine own_up (S' := T0.setTop (mkF m 109 La930 [(.int (0 : Int32)), (.int ((1 : Int32) + (1 : Int32)))])) (fun t stp => XS.iload X0.here hx rfl (hb hby at_107) (by rw [hLa930]; rfl) stp) ?_
          have hc109_933 : (0 : Int32) = 0 := by decide
          refine own_up (S' := T0.setTop (mkF m 116 La930 [(.int ((1 : Int32) + (1 : Int32)))])) (fun t stp => XS.ifYes X0.here hx rfl (pc0 := 109) (pc' := 116) rfl (hb hby at_109) rfl (XT.i0_eq_t hc109_933) (by decide) (by decide) stp) ?_
          refine own_up (S' := T0.setTop (mkF m 117 La930 [(.int (0 : Int32)), (.int ((1 : Int32) + (1 : Int32)))])) (fun t stp => XT.iconstV X0.here hx rfl (0 : Int32) (hb hby at_116) rfl stp) ?_
          refine own_up (S' := T0.setTop (mkF m 118 La930 [(.int (((1 : Int32) + (1 : Int32)) + (0 : Int32)))])) (fun t stp => XS.iadd X0.here hx rfl (hb hby at_117) rfl stp) ?_
          refine own_up (S' := T0.setTop (mkF m 120 La930 [(.int (0 : Int32)), (.int (((1 : Int32) + (1 : Int32)) + (0 : Int32)))])) (fun t stp => XS.iload X0.here hx rfl (hb hby at_118) (by rw [hLa930]; rfl) stp) ?_
          have hc120_934 : (0 : Int32) = 0 := hc109_933
          refine own_up (S' := T0.setTop (mkF m 127 La930 [(.int (((1 : Int32) + (1 : Int32)) + (0 : Int32)))])) (fun t stp => XS.ifYes X0.here hx rfl (pc0 := 120) (pc' := 127) rfl (hb hby at_120) rfl (XT.i0_eq_t hc120_934) (by decide) (by decide) stp) ?_
          refine own_up (S' := T0.setTop (mkF m 128 La930 [(.int (0 : Int32)), (.int (((1 : Int32) + (1 : Int32)) + (0 : Int32)))])) (fun t stp => XT.iconstV X0.here hx rfl (0 : Int32) (hb hby at_127) rfl stp) ?_
          refine own_up (S' := T0.setTop (mkF m 129 La930 [(.int ((((1 : Int32) + (1 : Int32)) + (0 : Int32)) + (0 : Int32)))])) (fun t stp => XS.iadd X0.here hx rfl (hb hby at_128) rfl stp) ?_
          show own_Ends p e below s (own_Q0 Z l0 l1 l2 u0 u1 sel h0 n0) room_1.cells room_1.slots (T0.setTop (mkF m 129 La930 [(.int (2 : Int32))]))
          obtain ⟨La935, hLa935⟩ : ∃ L : Array Slot, L = #[.val (.long l0), .second, .val (.long l1), .second, .val (.long l2), .second, .val (.long u0), .second, .val (.long u1), .second, .val (.int sel), .val (.int mm), .val (.int (1 : Int32)), .val (.int (1 : Int32)), .val (.int (0 : Int32)), .val (.int (0 : Int32)), .val (.long u0), .second, .val (.long u1), .second, .val (.long v2), .second, .val (.long v3), .second, .val (.int (2 : Int32)), .unset, .unset, .unset, .unset, .unset, .unset, .unset, .unset, .unset, .unset, .unset, .unset, .unset, .unset, .unset] := ⟨_, rfl⟩
          refine own_up (S' := T0.setTop (mkF m 131 La935 [])) (fun t stp => XS.istore X0.here hx rfl (hb hby at_129) rfl (l' := La935) (by rw [hLa930, hLa935]; rfl) stp) ?_
          refine own_up (S' := T0.setTop (mkF m 133 La935 [(.int (2 : Int32))])) (fun t stp => XS.iload X0.here hx rfl (hb hby at_131) (by rw [hLa935]; rfl) stp) ?_
          refine own_newa X0 hx hZ (ty := .int) rfl (hw _ (List.mem_of_getElem? (i := 0) rfl)) e0 2 (hb hby at_133) (rfl) 2 (by decide) (by decide) (by decide) (by decide) rfl rfl ?_
          intro T936 h936 ad936 hb936 X936 e936 E936 A936
          have g_ad936 : n0 ≤ ad936 := Nat.le_trans Z0 (Nat.le_of_eq hb936.symm)
          have Zn937 := Nat.le_trans Z0 E936.1
          have Al936 : own_Al Z h936 ad936 .int [(.int (0 : Int32)), (.int (0 : Int32))] := A936
          show own_Ends p e below s (own_Q0 Z l0 l1 l2 u0 u1 sel h0 n0) room_1.cells room_1.slots (T936.setTop (mkF m 135 La935 [(.ref ad936)]))
          obtain ⟨La939, hLa939⟩ : ∃ L : Array Slot, L = #[.val (.long l0), .second, .val (.long l1), .second, .val (.long l2), .second, .val (.long u0), .second, .val (.long u1), .second, .val (.int sel), .val (.int mm), .val (.int (1 : Int32)), .val (.int (1 : Int32)), .val (.int (0 : Int32)), .val (.int (0 : Int32)), .val (.long u0), .second, .val (.long u1), .second, .val (.long v2), .second, .val (.long v3), .second, .val (.int (2 : Int32)), .val (.ref ad936), .unset, .unset, .unset, .unset, .unset, .unset, .unset, .unset, .unset, .unset, .unset, .unset, .unset, .unset] := ⟨_, rfl⟩
          refine own_up (S' := T936.setTop (mkF m 137 La939 [])) (fun t stp => XS.astore X936.here hx rfl (hb hby at_135) rfl rfl (l' := La939) (by rw [hLa935, hLa939]; rfl) stp) ?_
          refine own_up (S' := T936.setTop (mkF m 139 La939 [(.int (2 : Int32))])) (fun t stp => XS.iload X936.here hx rfl (hb hby at_137) (by rw [hLa939]; rfl) stp) ?_
          refine own_newa X936 hx hZ (ty := .long) rfl (hw _ (List.mem_of_getElem? (i := 1) rfl)) e936 2 (hb hby at_139) (rfl) 2 (by decide) (by decide) (by decide) (by decide) rfl rfl ?_
          intro T940 h940 ad940 hb940 X940 e940 E940 A940
          have ne940_ad936_ad940 : ad936 ≠ ad940 := Nat.ne_of_lt (Nat.lt_of_lt_of_eq (own_Al_lt Al936) hb940.symm)
          have g_ad940 : n0 ≤ ad940 := Nat.le_trans Zn937 (Nat.le_of_eq hb940.symm)
          have Zn941 := Nat.le_trans Zn937 E940.1
          have Al936_942 := own_Al_ext E940 Al936
          have Al940 : own_Al Z h940 ad940 .long [(.long (0 : Int64)), (.long (0 : Int64))] := A940
          show own_Ends p e below s (own_Q0 Z l0 l1 l2 u0 u1 sel h0 n0) room_1.cells room_1.slots (T940.setTop (mkF m 141 La939 [(.ref ad940)]))
          obtain ⟨La943, hLa943⟩ : ∃ L : Array Slot, L = #[.val (.long l0), .second, .val (.long l1), .second, .val (.long l2), .second, .val (.long u0), .second, .val (.long u1), .second, .val (.int sel), .val (.int mm), .val (.int (1 : Int32)), .val (.int (1 : Int32)), .val (.int (0 : Int32)), .val (.int (0 : Int32)), .val (.long u0), .second, .val (.long u1), .second, .val (.long v2), .second, .val (.long v3), .second, .val (.int (2 : Int32)), .val (.ref ad936), .val (.ref ad940), .unset, .unset, .unset, .unset, .unset, .unset, .unset, .unset, .unset, .unset, .unset, .unset, .unset] := ⟨_, rfl⟩
          refine own_up (S' := T940.setTop (mkF m 143 La943 [])) (fun t stp => XS.astore X940.here hx rfl (hb hby at_141) rfl rfl (l' := La943) (by rw [hLa939, hLa943]; rfl) stp) ?_
          refine own_up (S' := T940.setTop (mkF m 144 La943 [(.int (0 : Int32))])) (fun t stp => XT.iconstV X940.here hx rfl (0 : Int32) (hb hby at_143) rfl stp) ?_
          obtain ⟨La944, hLa944⟩ : ∃ L : Array Slot, L = #[.val (.long l0), .second, .val (.long l1), .second, .val (.long l2), .second, .val (.long u0), .second, .val (.long u1), .second, .val (.int sel), .val (.int mm), .val (.int (1 : Int32)), .val (.int (1 : Int32)), .val (.int (0 : Int32)), .val (.int (0 : Int32)), .val (.long u0), .second, .val (.long u1), .second, .val (.long v2), .second, .val (.long v3), .second, .val (.int (2 : Int32)), .val (.ref ad936), .val (.ref ad940), .val (.int (0 : Int32)), .unset, .unset, .unset, .unset, .unset, .unset, .unset, .unset, .unset, .unset, .unset, .unset] := ⟨_, rfl⟩
          refine own_up (S' := T940.setTop (mkF m 146 La944 [])) (fun t stp => XS.istore X940.here hx rfl (hb hby at_144) rfl (l' := La944) (by rw [hLa943, hLa944]; rfl) stp) ?_
          refine own_up (S' := T940.setTop (mkF m 148 La944 [(.int (1 : Int32))])) (fun t stp => XS.iload X940.here hx rfl (hb hby at_146) (by rw [hLa944]; rfl) stp) ?_
          have hc148_945 : ¬ ((1 : Int32) = 0) := hc88_931
          refine own_up (S' := T940.setTop (mkF m 151 La944 [])) (fun t stp => XS.ifNo X940.here hx rfl (hb hby at_148) rfl (XT.i0_eq_f hc148_945) stp) ?_
          refine own_up (S' := T940.setTop (mkF m 153 La944 [(.ref ad936)])) (fun t stp => XS.aload X940.here hx rfl (hb hby at_151) (by rw [hLa944]; rfl) rfl stp) ?_
          refine own_up (S' := T940.setTop (mkF m 155 La944 [(.int (0 : Int32)), (.ref ad936)])) (fun t stp => XS.iload X940.here hx rfl (hb hby at_153) (by rw [hLa944]; rfl) stp) ?_
          refine own_up (S' := T940.setTop (mkF m 156 La944 [(.int (0 : Int32)), (.int (0 : Int32)), (.ref ad936)])) (fun t stp => XT.iconstV X940.here hx rfl (0 : Int32) (hb hby at_155) rfl stp) ?_
          refine own_sti X940 hx hZ e940 Al936_942 0 (hb hby at_156) (rfl) (Nat.le_of_ble_eq_true rfl) rfl rfl (g' := (mkF m 157 La944 [])) rfl ?_
          intro T946 h946 X946 e946 W946 B946
          have Zn947 := Nat.le_trans Zn941 (Nat.le_of_eq W946.size.symm)
          have Al940_948 := own_Al_oth W946 Al940 (Ne.symm ne940_ad936_ad940)
          have N946 := Fr.snoc X946 N0 g_ad936
          have Al946 : own_Al Z h946 ad936 .int [(.int (0 : Int32)), (.int (0 : Int32))] := B946
          refine own_up (S' := T946.setTop (mkF m 159 La944 [(.ref ad940)])) (fun t stp => XS.aload X946.here hx rfl (hb hby at_157) (by rw [hLa944]; rfl) rfl stp) ?_
          refine own_up (S' := T946.setTop (mkF m 161 La944 [(.int (0 : Int32)), (.ref ad940)])) (fun t stp => XS.iload X946.here hx rfl (hb hby at_159) (by rw [hLa944]; rfl) stp) ?_
          refine own_up (S' := T946.setTop (mkF m 163 La944 [(.long u0), (.int (0 : Int32)), (.ref ad940)])) (fun t stp => XT.lload X946.here hx rfl (hb hby at_161) (by rw [hLa944]; rfl) stp) ?_
          refine own_stj X946 hx hZ e946 Al940_948 0 (hb hby at_163) (rfl) (Nat.le_of_ble_eq_true rfl) rfl rfl (g' := (mkF m 164 La944 [])) rfl ?_
          intro T949 h949 X949 e949 W949 B949
          have Zn950 := Nat.le_trans Zn947 (Nat.le_of_eq W949.size.symm)
          have Al946_951 := own_Al_oth W949 Al946 ne940_ad936_ad940
          have N949 := Fr.snoc X949 N946 g_ad940
          have Al949 : own_Al Z h949 ad940 .long [(.long u0), (.long (0 : Int64))] := B949
          obtain ⟨La952, hLa952⟩ : ∃ L : Array Slot, L = #[.val (.long l0), .second, .val (.long l1), .second, .val (.long l2), .second, .val (.long u0), .second, .val (.long u1), .second, .val (.int sel), .val (.int mm), .val (.int (1 : Int32)), .val (.int (1 : Int32)), .val (.int (0 : Int32)), .val (.int (0 : Int32)), .val (.long u0), .second, .val (.long u1), .second, .val (.long v2), .second, .val (.long v3), .second, .val (.int (2 : Int32)), .val (.ref ad936), .val (.ref ad940), .val (.int (1 : Int32)), .unset, .unset, .unset, .unset, .unset, .unset, .unset, .unset, .unset, .unset, .unset, .unset] := ⟨_, rfl⟩
          refine own_up (S' := T949.setTop (mkF m 167 La952 [])) (fun t stp => XT.iincV X949.here hx rfl (1 : Int32) (hb hby at_164) rfl (by rw [hLa944]; rfl) (l' := La952) (by rw [hLa944, hLa952]; rfl) stp) ?_
          refine own_up (S' := T949.setTop (mkF m 169 La952 [(.int (1 : Int32))])) (fun t stp => XS.iload X949.here hx rfl (hb hby at_167) (by rw [hLa952]; rfl) stp) ?_
          have hc169_953 : ¬ ((1 : Int32) = 0) := hc88_931
          refine own_up (S' := T949.setTop (mkF m 172 La952 [])) (fun t stp => XS.ifNo X949.here hx rfl (hb hby at_169) rfl (XT.i0_eq_f hc169_953) stp) ?_
          refine own_up (S' := T949.setTop (mkF m 174 La952 [(.ref ad936)])) (fun t stp => XS.aload X949.here hx rfl (hb hby at_172) (by rw [hLa952]; rfl) rfl stp) ?_
          refine own_up (S' := T949.setTop (mkF m 176 La952 [(.int (1 : Int32)), (.ref ad936)])) (fun t stp => XS.iload X949.here hx rfl (hb hby at_174) (by rw [hLa952]; rfl) stp) ?_
          refine own_up (S' := T949.setTop (mkF m 177 La952 [(.int (1 : Int32)), (.int (1 : Int32)), (.ref ad936)])) (fun t stp => XT.iconstV X949.here hx rfl (1 : Int32) (hb hby at_176) rfl stp) ?_
          refine own_sti X949 hx hZ e949 Al946_951 1 (hb hby at_177) (rfl) (Nat.le_of_ble_eq_true rfl) rfl rfl (g' := (mkF m 178 La952 [])) rfl ?_
          intro T954 h954 X954 e954 W954 B954
          have Zn955 := Nat.le_trans Zn950 (Nat.le_of_eq W954.size.symm)
          have Al949_956 := own_Al_oth W954 Al949 (Ne.symm ne940_ad936_ad940)
          have N954 := Fr.snoc X954 N949 g_ad936
          have Al954 : own_Al Z h954 ad936 .int [(.int (0 : Int32)), (.int (1 : Int32))] := B954
          refine own_up (S' := T954.setTop (mkF m 180 La952 [(.ref ad940)])) (fun t stp => XS.aload X954.here hx rfl (hb hby at_178) (by rw [hLa952]; rfl) rfl stp) ?_
          refine own_up (S' := T954.setTop (mkF m 182 La952 [(.int (1 : Int32)), (.ref ad940)])) (fun t stp => XS.iload X954.here hx rfl (hb hby at_180) (by rw [hLa952]; rfl) stp) ?_
          refine own_up (S' := T954.setTop (mkF m 184 La952 [(.long u1), (.int (1 : Int32)), (.ref ad940)])) (fun t stp => XT.lload X954.here hx rfl (hb hby at_182) (by rw [hLa952]; rfl) stp) ?_
          refine own_stj X954 hx hZ e954 Al949_956 1 (hb hby at_184) (rfl) (Nat.le_of_ble_eq_true rfl) rfl rfl (g' := (mkF m 185 La952 [])) rfl ?_
          intro T957 h957 X957 e957 W957 B957
          have Zn958 := Nat.le_trans Zn955 (Nat.le_of_eq W957.size.symm)
          have Al954_959 := own_Al_oth W957 Al954 ne940_ad936_ad940
          have N957 := Fr.snoc X957 N954 g_ad940
          have Al957 : own_Al Z h957 ad940 .long [(.long u0), (.long u1)] := B957
          obtain ⟨La960, hLa960⟩ : ∃ L : Array Slot, L = #[.val (.long l0), .second, .val (.long l1), .second, .val (.long l2), .second, .val (.long u0), .second, .val (.long u1), .second, .val (.int sel), .val (.int mm), .val (.int (1 : Int32)), .val (.int (1 : Int32)), .val (.int (0 : Int32)), .val (.int (0 : Int32)), .val (.long u0), .second, .val (.long u1), .second, .val (.long v2), .second, .val (.long v3), .second, .val (.int (2 : Int32)), .val (.ref ad936), .val (.ref ad940), .val (.int (2 : Int32)), .unset, .unset, .unset, .unset, .unset, .unset, .unset, .unset, .unset, .unset, .unset, .unset] := ⟨_, rfl⟩
          refine own_up (S' := T957.setTop (mkF m 188 La960 [])) (fun t stp => XT.iincV X957.here hx rfl (1 : Int32) (hb hby at_185) rfl (by rw [hLa952]; rfl) (l' := La960) (by rw [hLa952, hLa960]; rfl) stp) ?_
          refine own_up (S' := T957.setTop (mkF m 190 La960 [(.int (0 : Int32))])) (fun t stp => XS.iload X957.here hx rfl (hb hby at_188) (by rw [hLa960]; rfl) stp) ?_
          have hc190_961 : (0 : Int32) = 0 := hc109_933
          refine own_up (S' := T957.setTop (mkF m 209 La960 [])) (fun t stp => XS.ifYes X957.here hx rfl (pc0 := 190) (pc' := 209) rfl (hb hby at_190) rfl (XT.i0_eq_t hc190_961) (by decide) (by decide) stp) ?_
          refine own_up (S' := T957.setTop (mkF m 211 La960 [(.int (0 : Int32))])) (fun t stp => XS.iload X957.here hx rfl (hb hby at_209) (by rw [hLa960]; rfl) stp) ?_
          have hc211_962 : (0 : Int32) = 0 := hc109_933
          refine own_up (S' := T957.setTop (mkF m 230 La960 [])) (fun t stp => XS.ifYes X957.here hx rfl (pc0 := 211) (pc' := 230) rfl (hb hby at_211) rfl (XT.i0_eq_t hc211_962) (by decide) (by decide) stp) ?_
          refine own_up (S' := T957.setTop (mkF m 231 La960 [(.long l0)])) (fun t stp => XT.lloadN X957.here hx rfl (hb hby at_230) (by rw [hLa960]; rfl) stp) ?_
          refine own_up (S' := T957.setTop (mkF m 232 La960 [(.long l1), (.long l0)])) (fun t stp => XT.lloadN X957.here hx rfl (hb hby at_231) (by rw [hLa960]; rfl) stp) ?_
          refine own_up (S' := T957.setTop (mkF m 233 La960 [(.long (l0 ^^^ l1))])) (fun t stp => XT.lxor X957.here hx rfl (hb hby at_232) rfl stp) ?_
          obtain ⟨l3, h_l3⟩ : ∃ z : Int64, z = (l0 ^^^ l1) := ⟨_, rfl⟩
          rw [← h_l3]
          obtain ⟨La963, hLa963⟩ : ∃ L : Array Slot, L = #[.val (.long l0), .second, .val (.long l1), .second, .val (.long l2), .second, .val (.long u0), .second, .val (.long u1), .second, .val (.int sel), .val (.int mm), .val (.int (1 : Int32)), .val (.int (1 : Int32)), .val (.int (0 : Int32)), .val (.int (0 : Int32)), .val (.long u0), .second, .val (.long u1), .second, .val (.long v2), .second, .val (.long v3), .second, .val (.int (2 : Int32)), .val (.ref ad936), .val (.ref ad940), .val (.int (2 : Int32)), .val (.long l3), .second, .unset, .unset, .unset, .unset, .unset, .unset, .unset, .unset, .unset, .unset] := ⟨_, rfl⟩
          refine own_up (S' := T957.setTop (mkF m 235 La963 [])) (fun t stp => XT.lstore X957.here hx rfl (hb hby at_233) rfl (l' := La963) (by rw [hLa960, hLa963]; rfl) stp) ?_
          refine own_up (S' := T957.setTop (mkF m 236 La963 [(.int (4 : Int32))])) (fun t stp => XT.iconstV X957.here hx rfl (4 : Int32) (hb hby at_235) rfl stp) ?_
          refine own_newa X957 hx hZ (ty := .long) rfl (hw _ (List.mem_of_getElem? (i := 1) rfl)) e957 4 (hb hby at_236) (rfl) 4 (by decide) (by decide) (by decide) (by decide) rfl rfl ?_
          intro T964 h964 ad964 hb964 X964 e964 E964 A964
          have ne964_ad936_ad964 : ad936 ≠ ad964 := Nat.ne_of_lt (Nat.lt_of_lt_of_eq (own_Al_lt Al954_959) hb964.symm)
          have ne964_ad940_ad964 : ad940 ≠ ad964 := Nat.ne_of_lt (Nat.lt_of_lt_of_eq (own_Al_lt Al957) hb964.symm)
          have g_ad964 : n0 ≤ ad964 := Nat.le_trans Zn958 (Nat.le_of_eq hb964.symm)
          have Zn965 := Nat.le_trans Zn958 E964.1
          have Al954_966 := own_Al_ext E964 Al954_959
          have Al957_966 := own_Al_ext E964 Al957
          have Al964 : own_Al Z h964 ad964 .long [(.long (0 : Int64)), (.long (0 : Int64)), (.long (0 : Int64)), (.long (0 : Int64))] := A964
          show own_Ends p e below s (own_Q0 Z l0 l1 l2 u0 u1 sel h0 n0) room_1.cells room_1.slots (T964.setTop (mkF m 238 La963 [(.ref ad964)]))
          refine own_up (S' := T964.setTop (mkF m 239 La963 [(.ref ad964), (.ref ad964)])) (fun t stp => XS.dup X964.here hx rfl (hb hby at_238) rfl rfl stp) ?_
          refine own_up (S' := T964.setTop (mkF m 240 La963 [(.int (0 : Int32)), (.ref ad964), (.ref ad964)])) (fun t stp => XT.iconstV X964.here hx rfl (0 : Int32) (hb hby at_239) rfl stp) ?_
          refine own_up (S' := T964.setTop (mkF m 241 La963 [(.long l0), (.int (0 : Int32)), (.ref ad964), (.ref ad964)])) (fun t stp => XT.lloadN X964.here hx rfl (hb hby at_240) (by rw [hLa963]; rfl) stp) ?_
          refine own_stj X964 hx hZ e964 Al964 0 (hb hby at_241) (rfl) (Nat.le_of_ble_eq_true rfl) rfl rfl (g' := (mkF m 242 La963 [(.ref ad964)])) rfl ?_
          intro T967 h967 X967 e967 W967 B967
          have Zn968 := Nat.le_trans Zn965 (Nat.le_of_eq W967.size.symm)
          have Al954_969 := own_Al_oth W967 Al954_966 ne964_ad936_ad964
          have Al957_969 := own_Al_oth W967 Al957_966 ne964_ad940_ad964
          have N967 := Fr.snoc X967 N957 g_ad964
          have Al967 : own_Al Z h967 ad964 .long [(.long l0), (.long (0 : Int64)), (.long (0 : Int64)), (.long (0 : Int64))] := B967
          refine own_up (S' := T967.setTop (mkF m 243 La963 [(.ref ad964), (.ref ad964)])) (fun t stp => XS.dup X967.here hx rfl (hb hby at_242) rfl rfl stp) ?_
          refine own_up (S' := T967.setTop (mkF m 244 La963 [(.int (1 : Int32)), (.ref ad964), (.ref ad964)])) (fun t stp => XT.iconstV X967.here hx rfl (1 : Int32) (hb hby at_243) rfl stp) ?_
          refine own_up (S' := T967.setTop (mkF m 245 La963 [(.long l1), (.int (1 : Int32)), (.ref ad964), (.ref ad964)])) (fun t stp => XT.lloadN X967.here hx rfl (hb hby at_244) (by rw [hLa963]; rfl) stp) ?_
          refine own_stj X967 hx hZ e967 Al967 1 (hb hby at_245) (rfl) (Nat.le_of_ble_eq_true rfl) rfl rfl (g' := (mkF m 246 La963 [(.ref ad964)])) rfl ?_
          intro T970 h970 X970 e970 W970 B970
          have Zn971 := Nat.le_trans Zn968 (Nat.le_of_eq W970.size.symm)
          have Al954_972 := own_Al_oth W970 Al954_969 ne964_ad936_ad964
          have Al957_972 := own_Al_oth W970 Al957_969 ne964_ad940_ad964
          have N970 := Fr.snoc X970 N967 g_ad964
          have Al970 : own_Al Z h970 ad964 .long [(.long l0), (.long l1), (.long (0 : Int64)), (.long (0 : Int64))] := B970
          refine own_up (S' := T970.setTop (mkF m 247 La963 [(.ref ad964), (.ref ad964)])) (fun t stp => XS.dup X970.here hx rfl (hb hby at_246) rfl rfl stp) ?_
          refine own_up (S' := T970.setTop (mkF m 248 La963 [(.int (2 : Int32)), (.ref ad964), (.ref ad964)])) (fun t stp => XT.iconstV X970.here hx rfl (2 : Int32) (hb hby at_247) rfl stp) ?_
          refine own_up (S' := T970.setTop (mkF m 250 La963 [(.long l2), (.int (2 : Int32)), (.ref ad964), (.ref ad964)])) (fun t stp => XT.lload X970.here hx rfl (hb hby at_248) (by rw [hLa963]; rfl) stp) ?_
          refine own_stj X970 hx hZ e970 Al970 2 (hb hby at_250) (rfl) (Nat.le_of_ble_eq_true rfl) rfl rfl (g' := (mkF m 251 La963 [(.ref ad964)])) rfl ?_
          intro T973 h973 X973 e973 W973 B973
          have Zn974 := Nat.le_trans Zn971 (Nat.le_of_eq W973.size.symm)
          have Al954_975 := own_Al_oth W973 Al954_972 ne964_ad936_ad964
          have Al957_975 := own_Al_oth W973 Al957_972 ne964_ad940_ad964
          have N973 := Fr.snoc X973 N970 g_ad964
          have Al973 : own_Al Z h973 ad964 .long [(.long l0), (.long l1), (.long l2), (.long (0 : Int64))] := B973
          refine own_up (S' := T973.setTop (mkF m 252 La963 [(.ref ad964), (.ref ad964)])) (fun t stp => XS.dup X973.here hx rfl (hb hby at_251) rfl rfl stp) ?_
          refine own_up (S' := T973.setTop (mkF m 253 La963 [(.int (3 : Int32)), (.ref ad964), (.ref ad964)])) (fun t stp => XT.iconstV X973.here hx rfl (3 : Int32) (hb hby at_252) rfl stp) ?_
          refine own_up (S' := T973.setTop (mkF m 255 La963 [(.long l3), (.int (3 : Int32)), (.ref ad964), (.ref ad964)])) (fun t stp => XT.lload X973.here hx rfl (hb hby at_253) (by rw [hLa963]; rfl) stp) ?_
          refine own_stj X973 hx hZ e973 Al973 3 (hb hby at_255) (rfl) (Nat.le_of_ble_eq_true rfl) rfl rfl (g' := (mkF m 256 La963 [(.ref ad964)])) rfl ?_
          intro T976 h976 X976 e976 W976 B976
          have Zn977 := Nat.le_trans Zn974 (Nat.le_of_eq W976.size.symm)
          have Al954_978 := own_Al_oth W976 Al954_975 ne964_ad936_ad964
          have Al957_978 := own_Al_oth W976 Al957_975 ne964_ad940_ad964
          have N976 := Fr.snoc X976 N973 g_ad964
          have Al976 : own_Al Z h976 ad964 .long [(.long l0), (.long l1), (.long l2), (.long l3)] := B976
          obtain ⟨La979, hLa979⟩ : ∃ L : Array Slot, L = #[.val (.long l0), .second, .val (.long l1), .second, .val (.long l2), .second, .val (.long u0), .second, .val (.long u1), .second, .val (.int sel), .val (.int mm), .val (.int (1 : Int32)), .val (.int (1 : Int32)), .val (.int (0 : Int32)), .val (.int (0 : Int32)), .val (.long u0), .second, .val (.long u1), .second, .val (.long v2), .second, .val (.long v3), .second, .val (.int (2 : Int32)), .val (.ref ad936), .val (.ref ad940), .val (.int (2 : Int32)), .val (.long l3), .second, .val (.ref ad964), .unset, .unset, .unset, .unset, .unset, .unset, .unset, .unset, .unset] := ⟨_, rfl⟩
          refine own_up (S' := T976.setTop (mkF m 258 La979 [])) (fun t stp => XS.astore X976.here hx rfl (hb hby at_256) rfl rfl (l' := La979) (by rw [hLa963, hLa979]; rfl) stp) ?_
          refine own_new X976 hx hZ hown (hw _ (List.mem_of_getElem? (i := 2) rfl)) (hw _ (List.mem_of_getElem? (i := 3) rfl)) (hw _ (List.mem_of_getElem? (i := 4) rfl)) e976 rfl (hb hby at_258) (by decide) (by decide) ?_
          intro T980 h980 ob hb980 X980 e980 E980 A980 D980
          have ne980_ad936_ob : ad936 ≠ ob := Nat.ne_of_lt (Nat.lt_of_lt_of_eq (own_Al_lt Al954_978) hb980.symm)
          have ne980_ad940_ob : ad940 ≠ ob := Nat.ne_of_lt (Nat.lt_of_lt_of_eq (own_Al_lt Al957_978) hb980.symm)
          have ne980_ad964_ob : ad964 ≠ ob := Nat.ne_of_lt (Nat.lt_of_lt_of_eq (own_Al_lt Al976) hb980.symm)
          have g_ob : n0 ≤ ob := Nat.le_trans Zn977 (Nat.le_of_eq hb980.symm)
          have Zn981 := Nat.le_trans Zn977 E980.1
          have Al954_982 := own_Al_ext E980 Al954_978
          have Al957_982 := own_Al_ext E980 Al957_978
          have Al976_982 := own_Al_ext E980 Al976
          have Fresources_ob : Fld Z h980 ob "com/example/outcry/outcry/combinatorial/Bundle" "resources" "[I" .null := D980 (Or.inr (hw _ (List.mem_of_getElem? (i := 17) rfl))) (ty := (.array .int)) (by decide)
          have Funits_ob : Fld Z h980 ob "com/example/outcry/outcry/combinatorial/Bundle" "units" "[J" .null := D980 (Or.inr (hw _ (List.mem_of_getElem? (i := 19) rfl))) (ty := (.array .long)) (by decide)
          show own_Ends p e below s (own_Q0 Z l0 l1 l2 u0 u1 sel h0 n0) room_1.cells room_1.slots (T980.setTop (mkF m 261 La979 [(.ref ob)]))
          refine own_up (S' := T980.setTop (mkF m 262 La979 [(.ref ob), (.ref ob)])) (fun t stp => XS.dup X980.here hx rfl (hb hby at_261) rfl rfl stp) ?_
          refine own_up (S' := T980.setTop (mkF m 264 La979 [(.ref ad936), (.ref ob), (.ref ob)])) (fun t stp => XS.aload X980.here hx rfl (hb hby at_262) (by rw [hLa979]; rfl) rfl stp) ?_
          refine own_up (S' := T980.setTop (mkF m 266 La979 [(.ref ad940), (.ref ad936), (.ref ob), (.ref ob)])) (fun t stp => XS.aload X980.here hx rfl (hb hby at_264) (by rw [hLa979]; rfl) rfl stp) ?_
          refine own_callI X980 hx hZ rfl hown (hw _ (List.mem_of_getElem? (i := 5) rfl)) (hw _ (List.mem_of_getElem? (i := 6) rfl)) (hw _ (List.mem_of_getElem? (i := 4) rfl)) (hw _ (List.mem_of_getElem? (i := 7) rfl)) (by decide) e980 (rm2 l Z a0 hw [] ob ad936 ad940 h980 n0 Zn981 Fresources_ob Funits_ob A980 g_ob) 1 ob [(.ref ad936), (.ref ad940)] [(.ref ob)] (hb hby at_266) (lenOf own_pd1 rfl) (by decide) (by decide) (by decide) (by decide) rfl (by rw [hml, hLa979]; rfl) rfl (by show 2 * 0 + _ ≤ _; exact Nat.le_of_eq rfl) rfl ?_
          intro T983 L983 r983 X983 q983
          obtain ⟨rfl, M983, K983, G983a_983, G983b_983⟩ := q983
          have N983 := Fr.app N976 M983
          have Zn984 := Nat.le_trans Zn981 K983.1
          have Al954_985 := own_Al_keep K983 Al954_982 (ninS ne980_ad936_ob nin0)
          have Al957_985 := own_Al_keep K983 Al957_982 (ninS ne980_ad940_ob nin0)
          have Al976_985 := own_Al_keep K983 Al976_982 (ninS ne980_ad964_ob nin0)
          have A980_985 := A980.keep K983
          show own_Ends p e below s (own_Q0 Z l0 l1 l2 u0 u1 sel h0 n0) room_1.cells room_1.slots (T983.setTop (mkF m 269 La979 [(.ref ob)]))
          obtain ⟨La986, hLa986⟩ : ∃ L : Array Slot, L = #[.val (.long l0), .second, .val (.long l1), .second, .val (.long l2), .second, .val (.long u0), .second, .val (.long u1), .second, .val (.int sel), .val (.int mm), .val (.int (1 : Int32)), .val (.int (1 : Int32)), .val (.int (0 : Int32)), .val (.int (0 : Int32)), .val (.long u0), .second, .val (.long u1), .second, .val (.long v2), .second, .val (.long v3), .second, .val (.int (2 : Int32)), .val (.ref ad936), .val (.ref ad940), .val (.int (2 : Int32)), .val (.long l3), .second, .val (.ref ad964), .val (.ref ob), .unset, .unset, .unset, .unset, .unset, .unset, .unset, .unset] := ⟨_, rfl⟩
          refine own_up (S' := T983.setTop (mkF m 271 La986 [])) (fun t stp => XS.astore X983.here hx rfl (hb hby at_269) rfl rfl (l' := La986) (by rw [hLa979, hLa986]; rfl) stp) ?_
          refine own_up (S' := T983.setTop (mkF m 273 La986 [(.ref ob)])) (fun t stp => XS.aload X983.here hx rfl (hb hby at_271) (by rw [hLa986]; rfl) rfl stp) ?_
          refine own_up (S' := T983.setTop (mkF m 275 La986 [(.ref ad964), (.ref ob)])) (fun t stp => XS.aload X983.here hx rfl (hb hby at_273) (by rw [hLa986]; rfl) rfl stp) ?_
          refine own_callV X983 hx hZ hown (hw _ (List.mem_of_getElem? (i := 20) rfl)) (hw _ (List.mem_of_getElem? (i := 21) rfl)) (hw _ (List.mem_of_getElem? (i := 23) rfl)) (hw _ (List.mem_of_getElem? (i := 22) rfl)) (hw _ (List.mem_of_getElem? (i := 4) rfl)) (hw _ (List.mem_of_getElem? (i := 24) rfl)) (by decide) rfl (rm12 l Z a0 hw [] ob ad964 ad936 ad940 [(.long l0), (.long l1), (.long l2), (.long l3)] (0 : Int32) u0 (0) l0 (1 : Int32) u1 (1) l1 T983.heap n0 Zn984 G983a_983 G983b_983 Al954_985 Al957_985 Al976_985 g_ad964 ne964_ad936_ad964 ne964_ad940_ad964 (Ne.symm ne980_ad964_ob) (rfl) (rfl) (rfl) (rfl)) 0 A980_985 [(.ref ad964)] [] (hb hby at_275) (lenOf own_pd2 rfl) (by decide) (by decide) (by decide) (by decide) rfl (by rw [hml, hLa986]; rfl) rfl (by show 2 * 0 + _ ≤ _; exact Nat.le_of_eq rfl) rfl ?_
          intro T987 L987 r987 X987 q987
          obtain ⟨rfl, M987, K987, G987a_987⟩ := q987
          have N987 := Fr.app N983 M987
          have Zn988 := Nat.le_trans Zn984 K987.1
          have Al954_989 := own_Al_keep K987 Al954_985 (ninS ne964_ad936_ad964 nin0)
          have Al957_989 := own_Al_keep K987 Al957_985 (ninS ne964_ad940_ad964 nin0)
          have A980_989 := A980_985.keep K987
          have G983a_989 := G983a_983.keep K987 (ninS (Ne.symm ne980_ad964_ob) nin0)
          have G983b_989 := G983b_983.keep K987 (ninS (Ne.symm ne980_ad964_ob) nin0)
          show own_Ends p e below s (own_Q0 Z l0 l1 l2 u0 u1 sel h0 n0) room_1.cells room_1.slots (T987.setTop (mkF m 278 La986 []))
          have Tk987 : own_Al Z T987.heap ad964 .long [(.long (l0 - u0)), (.long (l1 - u1)), (.long l2), (.long l3)] := G987a_987
          refine own_up (S' := T987.setTop (mkF m 280 La986 [(.int (1 : Int32))])) (fun t stp => XS.iload X987.here hx rfl (hb hby at_278) (by rw [hLa986]; rfl) stp) ?_
          have hc280_990 : ¬ ((1 : Int32) = 0) := hc88_931
          refine own_up (S' := T987.setTop (mkF m 283 La986 [])) (fun t stp => XS.ifNo X987.here hx rfl (hb hby at_280) rfl (XT.i0_eq_f hc280_990) stp) ?_
          refine own_up (S' := T987.setTop (mkF m 284 La986 [(.long l0)])) (fun t stp => XT.lloadN X987.here hx rfl (hb hby at_283) (by rw [hLa986]; rfl) stp) ?_
          refine own_up (S' := T987.setTop (mkF m 286 La986 [(.long u0), (.long l0)])) (fun t stp => XT.lload X987.here hx rfl (hb hby at_284) (by rw [hLa986]; rfl) stp) ?_
          refine own_up (S' := T987.setTop (mkF m 287 La986 [(.long (l0 - u0))])) (fun t stp => XT.lsub X987.here hx rfl (hb hby at_286) rfl stp) ?_
          refine own_up (S' := T987.setTop (mkF m 291 La986 [(.long (l0 - u0))])) (fun t stp => XS.goto X987.here hx rfl (pc0 := 287) (pc' := 291) rfl (hb hby at_287) (by decide) (by decide) stp) ?_
          obtain ⟨e0q, h_e0q⟩ : ∃ z : Int64, z = (l0 - u0) := ⟨_, rfl⟩
          rw [← h_e0q]
          obtain ⟨La991, hLa991⟩ : ∃ L : Array Slot, L = #[.val (.long l0), .second, .val (.long l1), .second, .val (.long l2), .second, .val (.long u0), .second, .val (.long u1), .second, .val (.int sel), .val (.int mm), .val (.int (1 : Int32)), .val (.int (1 : Int32)), .val (.int (0 : Int32)), .val (.int (0 : Int32)), .val (.long u0), .second, .val (.long u1), .second, .val (.long v2), .second, .val (.long v3), .second, .val (.int (2 : Int32)), .val (.ref ad936), .val (.ref ad940), .val (.int (2 : Int32)), .val (.long l3), .second, .val (.ref ad964), .val (.ref ob), .val (.long e0q), .second, .unset, .unset, .unset, .unset, .unset, .unset] := ⟨_, rfl⟩
          refine own_up (S' := T987.setTop (mkF m 293 La991 [])) (fun t stp => XT.lstore X987.here hx rfl (hb hby at_291) rfl (l' := La991) (by rw [hLa986, hLa991]; rfl) stp) ?_
          refine own_up (S' := T987.setTop (mkF m 295 La991 [(.int (1 : Int32))])) (fun t stp => XS.iload X987.here hx rfl (hb hby at_293) (by rw [hLa991]; rfl) stp) ?_
          have hc295_992 : ¬ ((1 : Int32) = 0) := hc88_931
          refine own_up (S' := T987.setTop (mkF m 298 La991 [])) (fun t stp => XS.ifNo X987.here hx rfl (hb hby at_295) rfl (XT.i0_eq_f hc295_992) stp) ?_
          refine own_up (S' := T987.setTop (mkF m 299 La991 [(.long l1)])) (fun t stp => XT.lloadN X987.here hx rfl (hb hby at_298) (by rw [hLa991]; rfl) stp) ?_
          refine own_up (S' := T987.setTop (mkF m 301 La991 [(.long u1), (.long l1)])) (fun t stp => XT.lload X987.here hx rfl (hb hby at_299) (by rw [hLa991]; rfl) stp) ?_
          refine own_up (S' := T987.setTop (mkF m 302 La991 [(.long (l1 - u1))])) (fun t stp => XT.lsub X987.here hx rfl (hb hby at_301) rfl stp) ?_
          refine own_up (S' := T987.setTop (mkF m 306 La991 [(.long (l1 - u1))])) (fun t stp => XS.goto X987.here hx rfl (pc0 := 302) (pc' := 306) rfl (hb hby at_302) (by decide) (by decide) stp) ?_
          obtain ⟨e1q, h_e1q⟩ : ∃ z : Int64, z = (l1 - u1) := ⟨_, rfl⟩
          rw [← h_e1q]
          obtain ⟨La993, hLa993⟩ : ∃ L : Array Slot, L = #[.val (.long l0), .second, .val (.long l1), .second, .val (.long l2), .second, .val (.long u0), .second, .val (.long u1), .second, .val (.int sel), .val (.int mm), .val (.int (1 : Int32)), .val (.int (1 : Int32)), .val (.int (0 : Int32)), .val (.int (0 : Int32)), .val (.long u0), .second, .val (.long u1), .second, .val (.long v2), .second, .val (.long v3), .second, .val (.int (2 : Int32)), .val (.ref ad936), .val (.ref ad940), .val (.int (2 : Int32)), .val (.long l3), .second, .val (.ref ad964), .val (.ref ob), .val (.long e0q), .second, .val (.long e1q), .second, .unset, .unset, .unset, .unset] := ⟨_, rfl⟩
          refine own_up (S' := T987.setTop (mkF m 308 La993 [])) (fun t stp => XT.lstore X987.here hx rfl (hb hby at_306) rfl (l' := La993) (by rw [hLa991, hLa993]; rfl) stp) ?_
          refine own_up (S' := T987.setTop (mkF m 310 La993 [(.int (0 : Int32))])) (fun t stp => XS.iload X987.here hx rfl (hb hby at_308) (by rw [hLa993]; rfl) stp) ?_
          have hc310_994 : (0 : Int32) = 0 := hc109_933
          refine own_up (S' := T987.setTop (mkF m 321 La993 [])) (fun t stp => XS.ifYes X987.here hx rfl (pc0 := 310) (pc' := 321) rfl (hb hby at_310) rfl (XT.i0_eq_t hc310_994) (by decide) (by decide) stp) ?_
          refine own_up (S' := T987.setTop (mkF m 323 La993 [(.long l2)])) (fun t stp => XT.lload X987.here hx rfl (hb hby at_321) (by rw [hLa993]; rfl) stp) ?_
          obtain ⟨La995, hLa995⟩ : ∃ L : Array Slot, L = #[.val (.long l0), .second, .val (.long l1), .second, .val (.long l2), .second, .val (.long u0), .second, .val (.long u1), .second, .val (.int sel), .val (.int mm), .val (.int (1 : Int32)), .val (.int (1 : Int32)), .val (.int (0 : Int32)), .val (.int (0 : Int32)), .val (.long u0), .second, .val (.long u1), .second, .val (.long v2), .second, .val (.long v3), .second, .val (.int (2 : Int32)), .val (.ref ad936), .val (.ref ad940), .val (.int (2 : Int32)), .val (.long l3), .second, .val (.ref ad964), .val (.ref ob), .val (.long e0q), .second, .val (.long e1q), .second, .val (.long l2), .second, .unset, .unset] := ⟨_, rfl⟩
          refine own_up (S' := T987.setTop (mkF m 325 La995 [])) (fun t stp => XT.lstore X987.here hx rfl (hb hby at_323) rfl (l' := La995) (by rw [hLa993, hLa995]; rfl) stp) ?_
          refine own_up (S' := T987.setTop (mkF m 327 La995 [(.int (0 : Int32))])) (fun t stp => XS.iload X987.here hx rfl (hb hby at_325) (by rw [hLa995]; rfl) stp) ?_
          have hc327_996 : (0 : Int32) = 0 := hc109_933
          refine own_up (S' := T987.setTop (mkF m 338 La995 [])) (fun t stp => XS.ifYes X987.here hx rfl (pc0 := 327) (pc' := 338) rfl (hb hby at_327) rfl (XT.i0_eq_t hc327_996) (by decide) (by decide) stp) ?_
          refine own_up (S' := T987.setTop (mkF m 340 La995 [(.long l3)])) (fun t stp => XT.lload X987.here hx rfl (hb hby at_338) (by rw [hLa995]; rfl) stp) ?_
          obtain ⟨La997, hLa997⟩ : ∃ L : Array Slot, L = #[.val (.long l0), .second, .val (.long l1), .second, .val (.long l2), .second, .val (.long u0), .second, .val (.long u1), .second, .val (.int sel), .val (.int mm), .val (.int (1 : Int32)), .val (.int (1 : Int32)), .val (.int (0 : Int32)), .val (.int (0 : Int32)), .val (.long u0), .second, .val (.long u1), .second, .val (.long v2), .second, .val (.long v3), .second, .val (.int (2 : Int32)), .val (.ref ad936), .val (.ref ad940), .val (.int (2 : Int32)), .val (.long l3), .second, .val (.ref ad964), .val (.ref ob), .val (.long e0q), .second, .val (.long e1q), .second, .val (.long l2), .second, .val (.long l3), .second] := ⟨_, rfl⟩
          refine own_up (S' := T987.setTop (mkF m 342 La997 [])) (fun t stp => XT.lstore X987.here hx rfl (hb hby at_340) rfl (l' := La997) (by rw [hLa995, hLa997]; rfl) stp) ?_
          refine own_up (S' := T987.setTop (mkF m 344 La997 [(.ref ad964)])) (fun t stp => XS.aload X987.here hx rfl (hb hby at_342) (by rw [hLa997]; rfl) rfl stp) ?_
          refine own_len X987 hx hZ rfl Tk987 (4 : Int32) (hb hby at_344) (rfl) rfl rfl (g' := (mkF m 345 La997 [(.int (4 : Int32))])) rfl ?_
          refine own_up (S' := T987.setTop (mkF m 346 La997 [(.int (4 : Int32)), (.int (4 : Int32))])) (fun t stp => XT.iconstV X987.here hx rfl (4 : Int32) (hb hby at_345) rfl stp) ?_
          have hc346_998 : (4 : Int32) = (4 : Int32) := rfl
          refine own_up (S' := T987.setTop (mkF m 349 La997 [])) (fun t stp => XS.icmpNo X987.here hx rfl (hb hby at_346) rfl (XT.ii_ne_f hc346_998) stp) ?_
          refine own_up (S' := T987.setTop (mkF m 351 La997 [(.ref ad964)])) (fun t stp => XS.aload X987.here hx rfl (hb hby at_349) (by rw [hLa997]; rfl) rfl stp) ?_
          refine own_up (S' := T987.setTop (mkF m 352 La997 [(.int (0 : Int32)), (.ref ad964)])) (fun t stp => XT.iconstV X987.here hx rfl (0 : Int32) (hb hby at_351) rfl stp) ?_
          refine own_ldj X987 hx hZ rfl Tk987 (v := (.long (l0 - u0))) 0 (hb hby at_352) (rfl) (rfl) rfl rfl (g' := (mkF m 353 La997 [(.long (l0 - u0))])) rfl ?_
          refine own_up (S' := T987.setTop (mkF m 355 La997 [(.long e0q), (.long (l0 - u0))])) (fun t stp => XT.lload X987.here hx rfl (hb hby at_353) (by rw [hLa997]; rfl) stp) ?_
          refine own_up (S' := T987.setTop (mkF m 356 La997 [(.int (XT.cmpL (l0 - u0) e0q))])) (fun t stp => XT.lcmp X987.here hx rfl (hb hby at_355) rfl stp) ?_
          have hc356_999 : (l0 - u0) = e0q := h_e0q.symm
          have ihc356_999 : (l0 - u0).toInt = e0q.toInt := own_leq hc356_999
          refine own_up (S' := T987.setTop (mkF m 359 La997 [])) (fun t stp => XS.ifNo X987.here hx rfl (hb hby at_356) rfl (XT.ll_ne_f hc356_999) stp) ?_
          refine own_up (S' := T987.setTop (mkF m 361 La997 [(.ref ad964)])) (fun t stp => XS.aload X987.here hx rfl (hb hby at_359) (by rw [hLa997]; rfl) rfl stp) ?_
          refine own_up (S' := T987.setTop (mkF m 362 La997 [(.int (1 : Int32)), (.ref ad964)])) (fun t stp => XT.iconstV X987.here hx rfl (1 : Int32) (hb hby at_361) rfl stp) ?_
          refine own_ldj X987 hx hZ rfl Tk987 (v := (.long (l1 - u1))) 1 (hb hby at_362) (rfl) (rfl) rfl rfl (g' := (mkF m 363 La997 [(.long (l1 - u1))])) rfl ?_
          refine own_up (S' := T987.setTop (mkF m 365 La997 [(.long e1q), (.long (l1 - u1))])) (fun t stp => XT.lload X987.here hx rfl (hb hby at_363) (by rw [hLa997]; rfl) stp) ?_
          refine own_up (S' := T987.setTop (mkF m 366 La997 [(.int (XT.cmpL (l1 - u1) e1q))])) (fun t stp => XT.lcmp X987.here hx rfl (hb hby at_365) rfl stp) ?_
          have hc366_1000 : (l1 - u1) = e1q := h_e1q.symm
          have ihc366_1000 : (l1 - u1).toInt = e1q.toInt := own_leq hc366_1000
          refine own_up (S' := T987.setTop (mkF m 369 La997 [])) (fun t stp => XS.ifNo X987.here hx rfl (hb hby at_366) rfl (XT.ll_ne_f hc366_1000) stp) ?_
          refine own_up (S' := T987.setTop (mkF m 371 La997 [(.ref ad964)])) (fun t stp => XS.aload X987.here hx rfl (hb hby at_369) (by rw [hLa997]; rfl) rfl stp) ?_
          refine own_up (S' := T987.setTop (mkF m 372 La997 [(.int (2 : Int32)), (.ref ad964)])) (fun t stp => XT.iconstV X987.here hx rfl (2 : Int32) (hb hby at_371) rfl stp) ?_
          refine own_ldj X987 hx hZ rfl Tk987 (v := (.long l2)) 2 (hb hby at_372) (rfl) (rfl) rfl rfl (g' := (mkF m 373 La997 [(.long l2)])) rfl ?_
          refine own_up (S' := T987.setTop (mkF m 375 La997 [(.long l2), (.long l2)])) (fun t stp => XT.lload X987.here hx rfl (hb hby at_373) (by rw [hLa997]; rfl) stp) ?_
          refine own_up (S' := T987.setTop (mkF m 376 La997 [(.int (XT.cmpL l2 l2))])) (fun t stp => XT.lcmp X987.here hx rfl (hb hby at_375) rfl stp) ?_
          have hc376_1001 : l2 = l2 := rfl
          have ihc376_1001 : l2.toInt = l2.toInt := own_leq hc376_1001
          refine own_up (S' := T987.setTop (mkF m 379 La997 [])) (fun t stp => XS.ifNo X987.here hx rfl (hb hby at_376) rfl (XT.ll_ne_f hc376_1001) stp) ?_
          refine own_up (S' := T987.setTop (mkF m 381 La997 [(.ref ad964)])) (fun t stp => XS.aload X987.here hx rfl (hb hby at_379) (by rw [hLa997]; rfl) rfl stp) ?_
          refine own_up (S' := T987.setTop (mkF m 382 La997 [(.int (3 : Int32)), (.ref ad964)])) (fun t stp => XT.iconstV X987.here hx rfl (3 : Int32) (hb hby at_381) rfl stp) ?_
          refine own_ldj X987 hx hZ rfl Tk987 (v := (.long l3)) 3 (hb hby at_382) (rfl) (rfl) rfl rfl (g' := (mkF m 383 La997 [(.long l3)])) rfl ?_
          refine own_up (S' := T987.setTop (mkF m 385 La997 [(.long l3), (.long l3)])) (fun t stp => XT.lload X987.here hx rfl (hb hby at_383) (by rw [hLa997]; rfl) stp) ?_
          refine own_up (S' := T987.setTop (mkF m 386 La997 [(.int (XT.cmpL l3 l3))])) (fun t stp => XT.lcmp X987.here hx rfl (hb hby at_385) rfl stp) ?_
          have hc386_1002 : l3 = l3 := rfl
          have ihc386_1002 : l3.toInt = l3.toInt := own_leq hc386_1002
          refine own_up (S' := T987.setTop (mkF m 389 La997 [])) (fun t stp => XS.ifNo X987.here hx rfl (hb hby at_386) rfl (XT.ll_ne_f hc386_1002) stp) ?_
          refine own_up (S' := T987.setTop (mkF m 390 La997 [(.int (1 : Int32))])) (fun t stp => XT.iconstV X987.here hx rfl (1 : Int32) (hb hby at_389) rfl stp) ?_
          refine own_up (S' := T987.setTop (mkF m 394 La997 [(.int (1 : Int32))])) (fun t stp => XS.goto X987.here hx rfl (pc0 := 390) (pc' := 394) rfl (hb hby at_390) (by decide) (by decide) stp) ?_
          refine own_retN X987 hx hlk (t := .boolean) hret (by simp) (z' := (1 : Int32)) rfl (hb hby at_394) (by decide) (by decide) ?_
          show own_Q0 Z l0 l1 l2 u0 u1 sel h0 n0 _ T987.heap _
          exact ⟨rfl, N987⟩
        · have ihc54_925 : (mm &&& (8 : Int32)).toInt ≠ 0 := own_ine hc54_925
          refine own_up (S' := T0.setTop (mkF m 57 La924 [])) (fun t stp => XS.ifNo X0.here hx rfl (hb hby at_54) rfl (XT.i0_eq_f hc54_925) stp) ?_
          refine own_up (S' := T0.setTop (mkF m 58 La924 [(.int (1 : Int32))])) (fun t stp => XT.iconstV X0.here hx rfl (1 : Int32) (hb hby at_57) rfl stp) ?_
          refine own_up (S' := T0.setTop (mkF m 62 La924 [(.int (1 : Int32))])) (fun t stp => XS.goto X0.here hx rfl (pc0 := 58) (pc' := 62) rfl (hb hby at_58) (by decide) (by decide) stp) ?_
          obtain ⟨La1003, hLa1003⟩ : ∃ L : Array Slot, L = #[.val (.long l0), .second, .val (.long l1), .second, .val (.long l2), .second, .val (.long u0), .second, .val (.long u1), .second, .val (.int sel), .val (.int mm), .val (.int (1 : Int32)), .val (.int (1 : Int32)), .val (.int (0 : Int32)), .val (.int (1 : Int32)), .unset, .unset, .unset, .unset, .unset, .unset, .unset, .unset, .unset, .unset, .unset, .unset, .unset, .unset, .unset, .unset, .unset, .unset, .unset, .unset, .unset, .unset, .unset, .unset] := ⟨_, rfl⟩
          refine own_up (S' := T0.setTop (mkF m 64 La1003 [])) (fun t stp => XS.istore X0.here hx rfl (hb hby at_62) rfl (l' := La1003) (by rw [hLa924, hLa1003]; rfl) stp) ?_
          refine own_up (S' := T0.setTop (mkF m 66 La1003 [(.long u0)])) (fun t stp => XT.lload X0.here hx rfl (hb hby at_64) (by rw [hLa1003]; rfl) stp) ?_
          obtain ⟨La1004, hLa1004⟩ : ∃ L : Array Slot, L = #[.val (.long l0), .second, .val (.long l1), .second, .val (.long l2), .second, .val (.long u0), .second, .val (.long u1), .second, .val (.int sel), .val (.int mm), .val (.int (1 : Int32)), .val (.int (1 : Int32)), .val (.int (0 : Int32)), .val (.int (1 : Int32)), .val (.long u0), .second, .unset, .unset, .unset, .unset, .unset, .unset, .unset, .unset, .unset, .unset, .unset, .unset, .unset, .unset, .unset, .unset, .unset, .unset, .unset, .unset, .unset, .unset] := ⟨_, rfl⟩
          refine own_up (S' := T0.setTop (mkF m 68 La1004 [])) (fun t stp => XT.lstore X0.here hx rfl (hb hby at_66) rfl (l' := La1004) (by rw [hLa1003, hLa1004]; rfl) stp) ?_
          refine own_up (S' := T0.setTop (mkF m 70 La1004 [(.long u1)])) (fun t stp => XT.lload X0.here hx rfl (hb hby at_68) (by rw [hLa1004]; rfl) stp) ?_
          obtain ⟨La1005, hLa1005⟩ : ∃ L : Array Slot, L = #[.val (.long l0), .second, .val (.long l1), .second, .val (.long l2), .second, .val (.long u0), .second, .val (.long u1), .second, .val (.int sel), .val (.int mm), .val (.int (1 : Int32)), .val (.int (1 : Int32)), .val (.int (0 : Int32)), .val (.int (1 : Int32)), .val (.long u0), .second, .val (.long u1), .second, .unset, .unset, .unset, .unset, .unset, .unset, .unset, .unset, .unset, .unset, .unset, .unset, .unset, .unset, .unset, .unset, .unset, .unset, .unset, .unset] := ⟨_, rfl⟩
          refine own_up (S' := T0.setTop (mkF m 72 La1005 [])) (fun t stp => XT.lstore X0.here hx rfl (hb hby at_70) rfl (l' := La1005) (by rw [hLa1004, hLa1005]; rfl) stp) ?_
          refine own_up (S' := T0.setTop (mkF m 74 La1005 [(.long u0)])) (fun t stp => XT.lload X0.here hx rfl (hb hby at_72) (by rw [hLa1005]; rfl) stp) ?_
          refine own_up (S' := T0.setTop (mkF m 76 La1005 [(.long u1), (.long u0)])) (fun t stp => XT.lload X0.here hx rfl (hb hby at_74) (by rw [hLa1005]; rfl) stp) ?_
          refine own_up (S' := T0.setTop (mkF m 77 La1005 [(.long (u0 - u1))])) (fun t stp => XT.lsub X0.here hx rfl (hb hby at_76) rfl stp) ?_
          obtain ⟨v2, h_v2⟩ : ∃ z : Int64, z = (u0 - u1) := ⟨_, rfl⟩
          rw [← h_v2]
          obtain ⟨La1006, hLa1006⟩ : ∃ L : Array Slot, L = #[.val (.long l0), .second, .val (.long l1), .second, .val (.long l2), .second, .val (.long u0), .second, .val (.long u1), .second, .val (.int sel), .val (.int mm), .val (.int (1 : Int32)), .val (.int (1 : Int32)), .val (.int (0 : Int32)), .val (.int (1 : Int32)), .val (.long u0), .second, .val (.long u1), .second, .val (.long v2), .second, .unset, .unset, .unset, .unset, .unset, .unset, .unset, .unset, .unset, .unset, .unset, .unset, .unset, .unset, .unset, .unset, .unset, .unset] := ⟨_, rfl⟩
          refine own_up (S' := T0.setTop (mkF m 79 La1006 [])) (fun t stp => XT.lstore X0.here hx rfl (hb hby at_77) rfl (l' := La1006) (by rw [hLa1005, hLa1006]; rfl) stp) ?_
          refine own_up (S' := T0.setTop (mkF m 81 La1006 [(.long u1)])) (fun t stp => XT.lload X0.here hx rfl (hb hby at_79) (by rw [hLa1006]; rfl) stp) ?_
          refine own_up (S' := T0.setTop (mkF m 83 La1006 [(.long l2), (.long u1)])) (fun t stp => XT.lload X0.here hx rfl (hb hby at_81) (by rw [hLa1006]; rfl) stp) ?_
          refine own_up (S' := T0.setTop (mkF m 84 La1006 [(.long (u1 ^^^ l2))])) (fun t stp => XT.lxor X0.here hx rfl (hb hby at_83) rfl stp) ?_
          obtain ⟨v3, h_v3⟩ : ∃ z : Int64, z = (u1 ^^^ l2) := ⟨_, rfl⟩
          rw [← h_v3]
          obtain ⟨La1007, hLa1007⟩ : ∃ L : Array Slot, L = #[.val (.long l0), .second, .val (.long l1), .second, .val (.long l2), .second, .val (.long u0), .second, .val (.long u1), .second, .val (.int sel), .val (.int mm), .val (.int (1 : Int32)), .val (.int (1 : Int32)), .val (.int (0 : Int32)), .val (.int (1 : Int32)), .val (.long u0), .second, .val (.long u1), .second, .val (.long v2), .second, .val (.long v3), .second, .unset, .unset, .unset, .unset, .unset, .unset, .unset, .unset, .unset, .unset, .unset, .unset, .unset, .unset, .unset, .unset] := ⟨_, rfl⟩
          refine own_up (S' := T0.setTop (mkF m 86 La1007 [])) (fun t stp => XT.lstore X0.here hx rfl (hb hby at_84) rfl (l' := La1007) (by rw [hLa1006, hLa1007]; rfl) stp) ?_
          refine own_up (S' := T0.setTop (mkF m 88 La1007 [(.int (1 : Int32))])) (fun t stp => XS.iload X0.here hx rfl (hb hby at_86) (by rw [hLa1007]; rfl) stp) ?_
          have hc88_1008 : ¬ ((1 : Int32) = 0) := by decide
          refine own_up (S' := T0.setTop (mkF m 91 La1007 [])) (fun t stp => XS.ifNo X0.here hx rfl (hb hby at_88) rfl (XT.i0_eq_f hc88_1008) stp) ?_
          refine own_up (S' := T0.setTop (mkF m 92 La1007 [(.int (1 : Int32))])) (fun t stp => XT.iconstV X0.here hx rfl (1 : Int32) (hb hby at_91) rfl stp) ?_
          refine own_up (S' := T0.setTop (mkF m 96 La1007 [(.int (1 : Int32))])) (fun t stp => XS.goto X0.here hx rfl (pc0 := 92) (pc' := 96) rfl (hb hby at_92) (by decide) (by decide) stp) ?_
          refine own_up (S' := T0.setTop (mkF m 98 La1007 [(.int (1 : Int32)), (.int (1 : Int32))])) (fun t stp => XS.iload X0.here hx rfl (hb hby at_96) (by rw [hLa1007]; rfl) stp) ?_
          have hc98_1009 : ¬ ((1 : Int32) = 0) := hc88_1008
          refine own_up (S' := T0.setTop (mkF m 101 La1007 [(.int (1 : Int32))])) (fun t stp => XS.ifNo X0.here hx rfl (hb hby at_98) rfl (XT.i0_eq_f hc98_1009) stp) ?_
          refine own_up (S' := T0.setTop (mkF m 102 La1007 [(.int (1 : Int32)), (.int (1 : Int32))])) (fun t stp => XT.iconstV X0.here hx rfl (1 : Int32) (hb hby at_101) rfl stp) ?_
          refine own_up (S' := T0.setTop (mkF m 106 La1007 [(.int (1 : Int32)), (.int (1 : Int32))])) (fun t stp => XS.goto X0.here hx rfl (pc0 := 102) (pc' := 106) rfl (hb hby at_102) (by decide) (by decide) stp) ?_
          refine own_up (S' := T0.setTop (mkF m 107 La1007 [(.int ((1 : Int32) + (1 : Int32)))])) (fun t stp => XS.iadd X0.here hx rfl (hb hby at_106) rfl stp) ?_
          refine own_up (S' := T0.setTop (mkF m 109 La1007 [(.int (0 : Int32)), (.int ((1 : Int32) + (1 : Int32)))])) (fun t stp => XS.iload X0.here hx rfl (hb hby at_107) (by rw [hLa1007]; rfl) stp) ?_
          have hc109_1010 : (0 : Int32) = 0 := by decide
          refine own_up (S' := T0.setTop (mkF m 116 La1007 [(.int ((1 : Int32) + (1 : Int32)))])) (fun t stp => XS.ifYes X0.here hx rfl (pc0 := 109) (pc' := 116) rfl (hb hby at_109) rfl (XT.i0_eq_t hc109_1010) (by decide) (by decide) stp) ?_
          refine own_up (S' := T0.setTop (mkF m 117 La1007 [(.int (0 : Int32)), (.int ((1 : Int32) + (1 : Int32)))])) (fun t stp => XT.iconstV X0.here hx rfl (0 : Int32) (hb hby at_116) rfl stp) ?_
          refine own_up (S' := T0.setTop (mkF m 118 La1007 [(.int (((1 : Int32) + (1 : Int32)) + (0 : Int32)))])) (fun t stp => XS.iadd X0.here hx rfl (hb hby at_117) rfl stp) ?_
          refine own_up (S' := T0.setTop (mkF m 120 La1007 [(.int (1 : Int32)), (.int (((1 : Int32) + (1 : Int32)) + (0 : Int32)))])) (fun t stp => XS.iload X0.here hx rfl (hb hby at_118) (by rw [hLa1007]; rfl) stp) ?_
          have hc120_1011 : ¬ ((1 : Int32) = 0) := hc88_1008
          refine own_up (S' := T0.setTop (mkF m 123 La1007 [(.int (((1 : Int32) + (1 : Int32)) + (0 : Int32)))])) (fun t stp => XS.ifNo X0.here hx rfl (hb hby at_120) rfl (XT.i0_eq_f hc120_1011) stp) ?_
          refine own_up (S' := T0.setTop (mkF m 124 La1007 [(.int (1 : Int32)), (.int (((1 : Int32) + (1 : Int32)) + (0 : Int32)))])) (fun t stp => XT.iconstV X0.here hx rfl (1 : Int32) (hb hby at_123) rfl stp) ?_
          refine own_up (S' := T0.setTop (mkF m 128 La1007 [(.int (1 : Int32)), (.int (((1 : Int32) + (1 : Int32)) + (0 : Int32)))])) (fun t stp => XS.goto X0.here hx rfl (pc0 := 124) (pc' := 128) rfl (hb hby at_124) (by decide) (by decide) stp) ?_
          refine own_up (S' := T0.setTop (mkF m 129 La1007 [(.int ((((1 : Int32) + (1 : Int32)) + (0 : Int32)) + (1 : Int32)))])) (fun t stp => XS.iadd X0.here hx rfl (hb hby at_128) rfl stp) ?_
          show own_Ends p e below s (own_Q0 Z l0 l1 l2 u0 u1 sel h0 n0) room_1.cells room_1.slots (T0.setTop (mkF m 129 La1007 [(.int (3 : Int32))]))
          obtain ⟨La1012, hLa1012⟩ : ∃ L : Array Slot, L = #[.val (.long l0), .second, .val (.long l1), .second, .val (.long l2), .second, .val (.long u0), .second, .val (.long u1), .second, .val (.int sel), .val (.int mm), .val (.int (1 : Int32)), .val (.int (1 : Int32)), .val (.int (0 : Int32)), .val (.int (1 : Int32)), .val (.long u0), .second, .val (.long u1), .second, .val (.long v2), .second, .val (.long v3), .second, .val (.int (3 : Int32)), .unset, .unset, .unset, .unset, .unset, .unset, .unset, .unset, .unset, .unset, .unset, .unset, .unset, .unset, .unset] := ⟨_, rfl⟩
          refine own_up (S' := T0.setTop (mkF m 131 La1012 [])) (fun t stp => XS.istore X0.here hx rfl (hb hby at_129) rfl (l' := La1012) (by rw [hLa1007, hLa1012]; rfl) stp) ?_
          refine own_up (S' := T0.setTop (mkF m 133 La1012 [(.int (3 : Int32))])) (fun t stp => XS.iload X0.here hx rfl (hb hby at_131) (by rw [hLa1012]; rfl) stp) ?_
          refine own_newa X0 hx hZ (ty := .int) rfl (hw _ (List.mem_of_getElem? (i := 0) rfl)) e0 3 (hb hby at_133) (rfl) 3 (by decide) (by decide) (by decide) (by decide) rfl rfl ?_
          intro T1013 h1013 ad1013 hb1013 X1013 e1013 E1013 A1013
          have g_ad1013 : n0 ≤ ad1013 := Nat.le_trans Z0 (Nat.le_of_eq hb1013.symm)
          have Zn1014 := Nat.le_trans Z0 E1013.1
          have Al1013 : own_Al Z h1013 ad1013 .int [(.int (0 : Int32)), (.int (0 : Int32)), (.int (0 : Int32))] := A1013
          show own_Ends p e below s (own_Q0 Z l0 l1 l2 u0 u1 sel h0 n0) room_1.cells room_1.slots (T1013.setTop (mkF m 135 La1012 [(.ref ad1013)]))
          obtain ⟨La1016, hLa1016⟩ : ∃ L : Array Slot, L = #[.val (.long l0), .second, .val (.long l1), .second, .val (.long l2), .second, .val (.long u0), .second, .val (.long u1), .second, .val (.int sel), .val (.int mm), .val (.int (1 : Int32)), .val (.int (1 : Int32)), .val (.int (0 : Int32)), .val (.int (1 : Int32)), .val (.long u0), .second, .val (.long u1), .second, .val (.long v2), .second, .val (.long v3), .second, .val (.int (3 : Int32)), .val (.ref ad1013), .unset, .unset, .unset, .unset, .unset, .unset, .unset, .unset, .unset, .unset, .unset, .unset, .unset, .unset] := ⟨_, rfl⟩
          refine own_up (S' := T1013.setTop (mkF m 137 La1016 [])) (fun t stp => XS.astore X1013.here hx rfl (hb hby at_135) rfl rfl (l' := La1016) (by rw [hLa1012, hLa1016]; rfl) stp) ?_
          refine own_up (S' := T1013.setTop (mkF m 139 La1016 [(.int (3 : Int32))])) (fun t stp => XS.iload X1013.here hx rfl (hb hby at_137) (by rw [hLa1016]; rfl) stp) ?_
          refine own_newa X1013 hx hZ (ty := .long) rfl (hw _ (List.mem_of_getElem? (i := 1) rfl)) e1013 3 (hb hby at_139) (rfl) 3 (by decide) (by decide) (by decide) (by decide) rfl rfl ?_
          intro T1017 h1017 ad1017 hb1017 X1017 e1017 E1017 A1017
          have ne1017_ad1013_ad1017 : ad1013 ≠ ad1017 := Nat.ne_of_lt (Nat.lt_of_lt_of_eq (own_Al_lt Al1013) hb1017.symm)
          have g_ad1017 : n0 ≤ ad1017 := Nat.le_trans Zn1014 (Nat.le_of_eq hb1017.symm)
          have Zn1018 := Nat.le_trans Zn1014 E1017.1
          have Al1013_1019 := own_Al_ext E1017 Al1013
          have Al1017 : own_Al Z h1017 ad1017 .long [(.long (0 : Int64)), (.long (0 : Int64)), (.long (0 : Int64))] := A1017
          show own_Ends p e below s (own_Q0 Z l0 l1 l2 u0 u1 sel h0 n0) room_1.cells room_1.slots (T1017.setTop (mkF m 141 La1016 [(.ref ad1017)]))
          obtain ⟨La1020, hLa1020⟩ : ∃ L : Array Slot, L = #[.val (.long l0), .second, .val (.long l1), .second, .val (.long l2), .second, .val (.long u0), .second, .val (.long u1), .second, .val (.int sel), .val (.int mm), .val (.int (1 : Int32)), .val (.int (1 : Int32)), .val (.int (0 : Int32)), .val (.int (1 : Int32)), .val (.long u0), .second, .val (.long u1), .second, .val (.long v2), .second, .val (.long v3), .second, .val (.int (3 : Int32)), .val (.ref ad1013), .val (.ref ad1017), .unset, .unset, .unset, .unset, .unset, .unset, .unset, .unset, .unset, .unset, .unset, .unset, .unset] := ⟨_, rfl⟩
          refine own_up (S' := T1017.setTop (mkF m 143 La1020 [])) (fun t stp => XS.astore X1017.here hx rfl (hb hby at_141) rfl rfl (l' := La1020) (by rw [hLa1016, hLa1020]; rfl) stp) ?_
          refine own_up (S' := T1017.setTop (mkF m 144 La1020 [(.int (0 : Int32))])) (fun t stp => XT.iconstV X1017.here hx rfl (0 : Int32) (hb hby at_143) rfl stp) ?_
          obtain ⟨La1021, hLa1021⟩ : ∃ L : Array Slot, L = #[.val (.long l0), .second, .val (.long l1), .second, .val (.long l2), .second, .val (.long u0), .second, .val (.long u1), .second, .val (.int sel), .val (.int mm), .val (.int (1 : Int32)), .val (.int (1 : Int32)), .val (.int (0 : Int32)), .val (.int (1 : Int32)), .val (.long u0), .second, .val (.long u1), .second, .val (.long v2), .second, .val (.long v3), .second, .val (.int (3 : Int32)), .val (.ref ad1013), .val (.ref ad1017), .val (.int (0 : Int32)), .unset, .unset, .unset, .unset, .unset, .unset, .unset, .unset, .unset, .unset, .unset, .unset] := ⟨_, rfl⟩
          refine own_up (S' := T1017.setTop (mkF m 146 La1021 [])) (fun t stp => XS.istore X1017.here hx rfl (hb hby at_144) rfl (l' := La1021) (by rw [hLa1020, hLa1021]; rfl) stp) ?_
          refine own_up (S' := T1017.setTop (mkF m 148 La1021 [(.int (1 : Int32))])) (fun t stp => XS.iload X1017.here hx rfl (hb hby at_146) (by rw [hLa1021]; rfl) stp) ?_
          have hc148_1022 : ¬ ((1 : Int32) = 0) := hc88_1008
          refine own_up (S' := T1017.setTop (mkF m 151 La1021 [])) (fun t stp => XS.ifNo X1017.here hx rfl (hb hby at_148) rfl (XT.i0_eq_f hc148_1022) stp) ?_
          refine own_up (S' := T1017.setTop (mkF m 153 La1021 [(.ref ad1013)])) (fun t stp => XS.aload X1017.here hx rfl (hb hby at_151) (by rw [hLa1021]; rfl) rfl stp) ?_
          refine own_up (S' := T1017.setTop (mkF m 155 La1021 [(.int (0 : Int32)), (.ref ad1013)])) (fun t stp => XS.iload X1017.here hx rfl (hb hby at_153) (by rw [hLa1021]; rfl) stp) ?_
          refine own_up (S' := T1017.setTop (mkF m 156 La1021 [(.int (0 : Int32)), (.int (0 : Int32)), (.ref ad1013)])) (fun t stp => XT.iconstV X1017.here hx rfl (0 : Int32) (hb hby at_155) rfl stp) ?_
          refine own_sti X1017 hx hZ e1017 Al1013_1019 0 (hb hby at_156) (rfl) (Nat.le_of_ble_eq_true rfl) rfl rfl (g' := (mkF m 157 La1021 [])) rfl ?_
          intro T1023 h1023 X1023 e1023 W1023 B1023
          have Zn1024 := Nat.le_trans Zn1018 (Nat.le_of_eq W1023.size.symm)
          have Al1017_1025 := own_Al_oth W1023 Al1017 (Ne.symm ne1017_ad1013_ad1017)
          have N1023 := Fr.snoc X1023 N0 g_ad1013
          have Al1023 : own_Al Z h1023 ad1013 .int [(.int (0 : Int32)), (.int (0 : Int32)), (.int (0 : Int32))] := B1023
          refine own_up (S' := T1023.setTop (mkF m 159 La1021 [(.ref ad1017)])) (fun t stp => XS.aload X1023.here hx rfl (hb hby at_157) (by rw [hLa1021]; rfl) rfl stp) ?_
          refine own_up (S' := T1023.setTop (mkF m 161 La1021 [(.int (0 : Int32)), (.ref ad1017)])) (fun t stp => XS.iload X1023.here hx rfl (hb hby at_159) (by rw [hLa1021]; rfl) stp) ?_
          refine own_up (S' := T1023.setTop (mkF m 163 La1021 [(.long u0), (.int (0 : Int32)), (.ref ad1017)])) (fun t stp => XT.lload X1023.here hx rfl (hb hby at_161) (by rw [hLa1021]; rfl) stp) ?_
          refine own_stj X1023 hx hZ e1023 Al1017_1025 0 (hb hby at_163) (rfl) (Nat.le_of_ble_eq_true rfl) rfl rfl (g' := (mkF m 164 La1021 [])) rfl ?_
          intro T1026 h1026 X1026 e1026 W1026 B1026
          have Zn1027 := Nat.le_trans Zn1024 (Nat.le_of_eq W1026.size.symm)
          have Al1023_1028 := own_Al_oth W1026 Al1023 ne1017_ad1013_ad1017
          have N1026 := Fr.snoc X1026 N1023 g_ad1017
          have Al1026 : own_Al Z h1026 ad1017 .long [(.long u0), (.long (0 : Int64)), (.long (0 : Int64))] := B1026
          obtain ⟨La1029, hLa1029⟩ : ∃ L : Array Slot, L = #[.val (.long l0), .second, .val (.long l1), .second, .val (.long l2), .second, .val (.long u0), .second, .val (.long u1), .second, .val (.int sel), .val (.int mm), .val (.int (1 : Int32)), .val (.int (1 : Int32)), .val (.int (0 : Int32)), .val (.int (1 : Int32)), .val (.long u0), .second, .val (.long u1), .second, .val (.long v2), .second, .val (.long v3), .second, .val (.int (3 : Int32)), .val (.ref ad1013), .val (.ref ad1017), .val (.int (1 : Int32)), .unset, .unset, .unset, .unset, .unset, .unset, .unset, .unset, .unset, .unset, .unset, .unset] := ⟨_, rfl⟩
          refine own_up (S' := T1026.setTop (mkF m 167 La1029 [])) (fun t stp => XT.iincV X1026.here hx rfl (1 : Int32) (hb hby at_164) rfl (by rw [hLa1021]; rfl) (l' := La1029) (by rw [hLa1021, hLa1029]; rfl) stp) ?_
          refine own_up (S' := T1026.setTop (mkF m 169 La1029 [(.int (1 : Int32))])) (fun t stp => XS.iload X1026.here hx rfl (hb hby at_167) (by rw [hLa1029]; rfl) stp) ?_
          have hc169_1030 : ¬ ((1 : Int32) = 0) := hc88_1008
          refine own_up (S' := T1026.setTop (mkF m 172 La1029 [])) (fun t stp => XS.ifNo X1026.here hx rfl (hb hby at_169) rfl (XT.i0_eq_f hc169_1030) stp) ?_
          refine own_up (S' := T1026.setTop (mkF m 174 La1029 [(.ref ad1013)])) (fun t stp => XS.aload X1026.here hx rfl (hb hby at_172) (by rw [hLa1029]; rfl) rfl stp) ?_
          refine own_up (S' := T1026.setTop (mkF m 176 La1029 [(.int (1 : Int32)), (.ref ad1013)])) (fun t stp => XS.iload X1026.here hx rfl (hb hby at_174) (by rw [hLa1029]; rfl) stp) ?_
          refine own_up (S' := T1026.setTop (mkF m 177 La1029 [(.int (1 : Int32)), (.int (1 : Int32)), (.ref ad1013)])) (fun t stp => XT.iconstV X1026.here hx rfl (1 : Int32) (hb hby at_176) rfl stp) ?_
          refine own_sti X1026 hx hZ e1026 Al1023_1028 1 (hb hby at_177) (rfl) (Nat.le_of_ble_eq_true rfl) rfl rfl (g' := (mkF m 178 La1029 [])) rfl ?_
          intro T1031 h1031 X1031 e1031 W1031 B1031
          have Zn1032 := Nat.le_trans Zn1027 (Nat.le_of_eq W1031.size.symm)
          have Al1026_1033 := own_Al_oth W1031 Al1026 (Ne.symm ne1017_ad1013_ad1017)
          have N1031 := Fr.snoc X1031 N1026 g_ad1013
          have Al1031 : own_Al Z h1031 ad1013 .int [(.int (0 : Int32)), (.int (1 : Int32)), (.int (0 : Int32))] := B1031
          refine own_up (S' := T1031.setTop (mkF m 180 La1029 [(.ref ad1017)])) (fun t stp => XS.aload X1031.here hx rfl (hb hby at_178) (by rw [hLa1029]; rfl) rfl stp) ?_
          refine own_up (S' := T1031.setTop (mkF m 182 La1029 [(.int (1 : Int32)), (.ref ad1017)])) (fun t stp => XS.iload X1031.here hx rfl (hb hby at_180) (by rw [hLa1029]; rfl) stp) ?_
          refine own_up (S' := T1031.setTop (mkF m 184 La1029 [(.long u1), (.int (1 : Int32)), (.ref ad1017)])) (fun t stp => XT.lload X1031.here hx rfl (hb hby at_182) (by rw [hLa1029]; rfl) stp) ?_
          refine own_stj X1031 hx hZ e1031 Al1026_1033 1 (hb hby at_184) (rfl) (Nat.le_of_ble_eq_true rfl) rfl rfl (g' := (mkF m 185 La1029 [])) rfl ?_
          intro T1034 h1034 X1034 e1034 W1034 B1034
          have Zn1035 := Nat.le_trans Zn1032 (Nat.le_of_eq W1034.size.symm)
          have Al1031_1036 := own_Al_oth W1034 Al1031 ne1017_ad1013_ad1017
          have N1034 := Fr.snoc X1034 N1031 g_ad1017
          have Al1034 : own_Al Z h1034 ad1017 .long [(.long u0), (.long u1), (.long (0 : Int64))] := B1034
          obtain ⟨La1037, hLa1037⟩ : ∃ L : Array Slot, L = #[.val (.long l0), .second, .val (.long l1), .second, .val (.long l2), .second, .val (.long u0), .second, .val (.long u1), .second, .val (.int sel), .val (.int mm), .val (.int (1 : Int32)), .val (.int (1 : Int32)), .val (.int (0 : Int32)), .val (.int (1 : Int32)), .val (.long u0), .second, .val (.long u1), .second, .val (.long v2), .second, .val (.long v3), .second, .val (.int (3 : Int32)), .val (.ref ad1013), .val (.ref ad1017), .val (.int (2 : Int32)), .unset, .unset, .unset, .unset, .unset, .unset, .unset, .unset, .unset, .unset, .unset, .unset] := ⟨_, rfl⟩
          refine own_up (S' := T1034.setTop (mkF m 188 La1037 [])) (fun t stp => XT.iincV X1034.here hx rfl (1 : Int32) (hb hby at_185) rfl (by rw [hLa1029]; rfl) (l' := La1037) (by rw [hLa1029, hLa1037]; rfl) stp) ?_
          refine own_up (S' := T1034.setTop (mkF m 190 La1037 [(.int (0 : Int32))])) (fun t stp => XS.iload X1034.here hx rfl (hb hby at_188) (by rw [hLa1037]; rfl) stp) ?_
          have hc190_1038 : (0 : Int32) = 0 := hc109_1010
          refine own_up (S' := T1034.setTop (mkF m 209 La1037 [])) (fun t stp => XS.ifYes X1034.here hx rfl (pc0 := 190) (pc' := 209) rfl (hb hby at_190) rfl (XT.i0_eq_t hc190_1038) (by decide) (by decide) stp) ?_
          refine own_up (S' := T1034.setTop (mkF m 211 La1037 [(.int (1 : Int32))])) (fun t stp => XS.iload X1034.here hx rfl (hb hby at_209) (by rw [hLa1037]; rfl) stp) ?_
          have hc211_1039 : ¬ ((1 : Int32) = 0) := hc88_1008
          refine own_up (S' := T1034.setTop (mkF m 214 La1037 [])) (fun t stp => XS.ifNo X1034.here hx rfl (hb hby at_211) rfl (XT.i0_eq_f hc211_1039) stp) ?_
          refine own_up (S' := T1034.setTop (mkF m 216 La1037 [(.ref ad1013)])) (fun t stp => XS.aload X1034.here hx rfl (hb hby at_214) (by rw [hLa1037]; rfl) rfl stp) ?_
          refine own_up (S' := T1034.setTop (mkF m 218 La1037 [(.int (2 : Int32)), (.ref ad1013)])) (fun t stp => XS.iload X1034.here hx rfl (hb hby at_216) (by rw [hLa1037]; rfl) stp) ?_
          refine own_up (S' := T1034.setTop (mkF m 219 La1037 [(.int (3 : Int32)), (.int (2 : Int32)), (.ref ad1013)])) (fun t stp => XT.iconstV X1034.here hx rfl (3 : Int32) (hb hby at_218) rfl stp) ?_
          refine own_sti X1034 hx hZ e1034 Al1031_1036 2 (hb hby at_219) (rfl) (Nat.le_of_ble_eq_true rfl) rfl rfl (g' := (mkF m 220 La1037 [])) rfl ?_
          intro T1040 h1040 X1040 e1040 W1040 B1040
          have Zn1041 := Nat.le_trans Zn1035 (Nat.le_of_eq W1040.size.symm)
          have Al1034_1042 := own_Al_oth W1040 Al1034 (Ne.symm ne1017_ad1013_ad1017)
          have N1040 := Fr.snoc X1040 N1034 g_ad1013
          have Al1040 : own_Al Z h1040 ad1013 .int [(.int (0 : Int32)), (.int (1 : Int32)), (.int (3 : Int32))] := B1040
          refine own_up (S' := T1040.setTop (mkF m 222 La1037 [(.ref ad1017)])) (fun t stp => XS.aload X1040.here hx rfl (hb hby at_220) (by rw [hLa1037]; rfl) rfl stp) ?_
          refine own_up (S' := T1040.setTop (mkF m 224 La1037 [(.int (2 : Int32)), (.ref ad1017)])) (fun t stp => XS.iload X1040.here hx rfl (hb hby at_222) (by rw [hLa1037]; rfl) stp) ?_
          refine own_up (S' := T1040.setTop (mkF m 226 La1037 [(.long v3), (.int (2 : Int32)), (.ref ad1017)])) (fun t stp => XT.lload X1040.here hx rfl (hb hby at_224) (by rw [hLa1037]; rfl) stp) ?_
          refine own_stj X1040 hx hZ e1040 Al1034_1042 2 (hb hby at_226) (rfl) (Nat.le_of_ble_eq_true rfl) rfl rfl (g' := (mkF m 227 La1037 [])) rfl ?_
          intro T1043 h1043 X1043 e1043 W1043 B1043
          have Zn1044 := Nat.le_trans Zn1041 (Nat.le_of_eq W1043.size.symm)
          have Al1040_1045 := own_Al_oth W1043 Al1040 ne1017_ad1013_ad1017
          have N1043 := Fr.snoc X1043 N1040 g_ad1017
          have Al1043 : own_Al Z h1043 ad1017 .long [(.long u0), (.long u1), (.long v3)] := B1043
          obtain ⟨La1046, hLa1046⟩ : ∃ L : Array Slot, L = #[.val (.long l0), .second, .val (.long l1), .second, .val (.long l2), .second, .val (.long u0), .second, .val (.long u1), .second, .val (.int sel), .val (.int mm), .val (.int (1 : Int32)), .val (.int (1 : Int32)), .val (.int (0 : Int32)), .val (.int (1 : Int32)), .val (.long u0), .second, .val (.long u1), .second, .val (.long v2), .second, .val (.long v3), .second, .val (.int (3 : Int32)), .val (.ref ad1013), .val (.ref ad1017), .val (.int (3 : Int32)), .unset, .unset, .unset, .unset, .unset, .unset, .unset, .unset, .unset, .unset, .unset, .unset] := ⟨_, rfl⟩
          refine own_up (S' := T1043.setTop (mkF m 230 La1046 [])) (fun t stp => XT.iincV X1043.here hx rfl (1 : Int32) (hb hby at_227) rfl (by rw [hLa1037]; rfl) (l' := La1046) (by rw [hLa1037, hLa1046]; rfl) stp) ?_
          refine own_up (S' := T1043.setTop (mkF m 231 La1046 [(.long l0)])) (fun t stp => XT.lloadN X1043.here hx rfl (hb hby at_230) (by rw [hLa1046]; rfl) stp) ?_
          refine own_up (S' := T1043.setTop (mkF m 232 La1046 [(.long l1), (.long l0)])) (fun t stp => XT.lloadN X1043.here hx rfl (hb hby at_231) (by rw [hLa1046]; rfl) stp) ?_
          refine own_up (S' := T1043.setTop (mkF m 233 La1046 [(.long (l0 ^^^ l1))])) (fun t stp => XT.lxor X1043.here hx rfl (hb hby at_232) rfl stp) ?_
          obtain ⟨l3, h_l3⟩ : ∃ z : Int64, z = (l0 ^^^ l1) := ⟨_, rfl⟩
          rw [← h_l3]
          obtain ⟨La1047, hLa1047⟩ : ∃ L : Array Slot, L = #[.val (.long l0), .second, .val (.long l1), .second, .val (.long l2), .second, .val (.long u0), .second, .val (.long u1), .second, .val (.int sel), .val (.int mm), .val (.int (1 : Int32)), .val (.int (1 : Int32)), .val (.int (0 : Int32)), .val (.int (1 : Int32)), .val (.long u0), .second, .val (.long u1), .second, .val (.long v2), .second, .val (.long v3), .second, .val (.int (3 : Int32)), .val (.ref ad1013), .val (.ref ad1017), .val (.int (3 : Int32)), .val (.long l3), .second, .unset, .unset, .unset, .unset, .unset, .unset, .unset, .unset, .unset, .unset] := ⟨_, rfl⟩
          refine own_up (S' := T1043.setTop (mkF m 235 La1047 [])) (fun t stp => XT.lstore X1043.here hx rfl (hb hby at_233) rfl (l' := La1047) (by rw [hLa1046, hLa1047]; rfl) stp) ?_
          refine own_up (S' := T1043.setTop (mkF m 236 La1047 [(.int (4 : Int32))])) (fun t stp => XT.iconstV X1043.here hx rfl (4 : Int32) (hb hby at_235) rfl stp) ?_
          refine own_newa X1043 hx hZ (ty := .long) rfl (hw _ (List.mem_of_getElem? (i := 1) rfl)) e1043 4 (hb hby at_236) (rfl) 4 (by decide) (by decide) (by decide) (by decide) rfl rfl ?_
          intro T1048 h1048 ad1048 hb1048 X1048 e1048 E1048 A1048
          have ne1048_ad1013_ad1048 : ad1013 ≠ ad1048 := Nat.ne_of_lt (Nat.lt_of_lt_of_eq (own_Al_lt Al1040_1045) hb1048.symm)
          have ne1048_ad1017_ad1048 : ad1017 ≠ ad1048 := Nat.ne_of_lt (Nat.lt_of_lt_of_eq (own_Al_lt Al1043) hb1048.symm)
          have g_ad1048 : n0 ≤ ad1048 := Nat.le_trans Zn1044 (Nat.le_of_eq hb1048.symm)
          have Zn1049 := Nat.le_trans Zn1044 E1048.1
          have Al1040_1050 := own_Al_ext E1048 Al1040_1045
          have Al1043_1050 := own_Al_ext E1048 Al1043
          have Al1048 : own_Al Z h1048 ad1048 .long [(.long (0 : Int64)), (.long (0 : Int64)), (.long (0 : Int64)), (.long (0 : Int64))] := A1048
          show own_Ends p e below s (own_Q0 Z l0 l1 l2 u0 u1 sel h0 n0) room_1.cells room_1.slots (T1048.setTop (mkF m 238 La1047 [(.ref ad1048)]))
          refine own_up (S' := T1048.setTop (mkF m 239 La1047 [(.ref ad1048), (.ref ad1048)])) (fun t stp => XS.dup X1048.here hx rfl (hb hby at_238) rfl rfl stp) ?_
          refine own_up (S' := T1048.setTop (mkF m 240 La1047 [(.int (0 : Int32)), (.ref ad1048), (.ref ad1048)])) (fun t stp => XT.iconstV X1048.here hx rfl (0 : Int32) (hb hby at_239) rfl stp) ?_
          refine own_up (S' := T1048.setTop (mkF m 241 La1047 [(.long l0), (.int (0 : Int32)), (.ref ad1048), (.ref ad1048)])) (fun t stp => XT.lloadN X1048.here hx rfl (hb hby at_240) (by rw [hLa1047]; rfl) stp) ?_
          refine own_stj X1048 hx hZ e1048 Al1048 0 (hb hby at_241) (rfl) (Nat.le_of_ble_eq_true rfl) rfl rfl (g' := (mkF m 242 La1047 [(.ref ad1048)])) rfl ?_
          intro T1051 h1051 X1051 e1051 W1051 B1051
          have Zn1052 := Nat.le_trans Zn1049 (Nat.le_of_eq W1051.size.symm)
          have Al1040_1053 := own_Al_oth W1051 Al1040_1050 ne1048_ad1013_ad1048
          have Al1043_1053 := own_Al_oth W1051 Al1043_1050 ne1048_ad1017_ad1048
          have N1051 := Fr.snoc X1051 N1043 g_ad1048
          have Al1051 : own_Al Z h1051 ad1048 .long [(.long l0), (.long (0 : Int64)), (.long (0 : Int64)), (.long (0 : Int64))] := B1051
          refine own_up (S' := T1051.setTop (mkF m 243 La1047 [(.ref ad1048), (.ref ad1048)])) (fun t stp => XS.dup X1051.here hx rfl (hb hby at_242) rfl rfl stp) ?_
          refine own_up (S' := T1051.setTop (mkF m 244 La1047 [(.int (1 : Int32)), (.ref ad1048), (.ref ad1048)])) (fun t stp => XT.iconstV X1051.here hx rfl (1 : Int32) (hb hby at_243) rfl stp) ?_
          refine own_up (S' := T1051.setTop (mkF m 245 La1047 [(.long l1), (.int (1 : Int32)), (.ref ad1048), (.ref ad1048)])) (fun t stp => XT.lloadN X1051.here hx rfl (hb hby at_244) (by rw [hLa1047]; rfl) stp) ?_
          refine own_stj X1051 hx hZ e1051 Al1051 1 (hb hby at_245) (rfl) (Nat.le_of_ble_eq_true rfl) rfl rfl (g' := (mkF m 246 La1047 [(.ref ad1048)])) rfl ?_
          intro T1054 h1054 X1054 e1054 W1054 B1054
          have Zn1055 := Nat.le_trans Zn1052 (Nat.le_of_eq W1054.size.symm)
          have Al1040_1056 := own_Al_oth W1054 Al1040_1053 ne1048_ad1013_ad1048
          have Al1043_1056 := own_Al_oth W1054 Al1043_1053 ne1048_ad1017_ad1048
          have N1054 := Fr.snoc X1054 N1051 g_ad1048
          have Al1054 : own_Al Z h1054 ad1048 .long [(.long l0), (.long l1), (.long (0 : Int64)), (.long (0 : Int64))] := B1054
          refine own_up (S' := T1054.setTop (mkF m 247 La1047 [(.ref ad1048), (.ref ad1048)])) (fun t stp => XS.dup X1054.here hx rfl (hb hby at_246) rfl rfl stp) ?_
          refine own_up (S' := T1054.setTop (mkF m 248 La1047 [(.int (2 : Int32)), (.ref ad1048), (.ref ad1048)])) (fun t stp => XT.iconstV X1054.here hx rfl (2 : Int32) (hb hby at_247) rfl stp) ?_
          refine own_up (S' := T1054.setTop (mkF m 250 La1047 [(.long l2), (.int (2 : Int32)), (.ref ad1048), (.ref ad1048)])) (fun t stp => XT.lload X1054.here hx rfl (hb hby at_248) (by rw [hLa1047]; rfl) stp) ?_
          refine own_stj X1054 hx hZ e1054 Al1054 2 (hb hby at_250) (rfl) (Nat.le_of_ble_eq_true rfl) rfl rfl (g' := (mkF m 251 La1047 [(.ref ad1048)])) rfl ?_
          intro T1057 h1057 X1057 e1057 W1057 B1057
          have Zn1058 := Nat.le_trans Zn1055 (Nat.le_of_eq W1057.size.symm)
          have Al1040_1059 := own_Al_oth W1057 Al1040_1056 ne1048_ad1013_ad1048
          have Al1043_1059 := own_Al_oth W1057 Al1043_1056 ne1048_ad1017_ad1048
          have N1057 := Fr.snoc X1057 N1054 g_ad1048
          have Al1057 : own_Al Z h1057 ad1048 .long [(.long l0), (.long l1), (.long l2), (.long (0 : Int64))] := B1057
          refine own_up (S' := T1057.setTop (mkF m 252 La1047 [(.ref ad1048), (.ref ad1048)])) (fun t stp => XS.dup X1057.here hx rfl (hb hby at_251) rfl rfl stp) ?_
          refine own_up (S' := T1057.setTop (mkF m 253 La1047 [(.int (3 : Int32)), (.ref ad1048), (.ref ad1048)])) (fun t stp => XT.iconstV X1057.here hx rfl (3 : Int32) (hb hby at_252) rfl stp) ?_
          refine own_up (S' := T1057.setTop (mkF m 255 La1047 [(.long l3), (.int (3 : Int32)), (.ref ad1048), (.ref ad1048)])) (fun t stp => XT.lload X1057.here hx rfl (hb hby at_253) (by rw [hLa1047]; rfl) stp) ?_
          refine own_stj X1057 hx hZ e1057 Al1057 3 (hb hby at_255) (rfl) (Nat.le_of_ble_eq_true rfl) rfl rfl (g' := (mkF m 256 La1047 [(.ref ad1048)])) rfl ?_
          intro T1060 h1060 X1060 e1060 W1060 B1060
          have Zn1061 := Nat.le_trans Zn1058 (Nat.le_of_eq W1060.size.symm)
          have Al1040_1062 := own_Al_oth W1060 Al1040_1059 ne1048_ad1013_ad1048
          have Al1043_1062 := own_Al_oth W1060 Al1043_1059 ne1048_ad1017_ad1048
          have N1060 := Fr.snoc X1060 N1057 g_ad1048
          have Al1060 : own_Al Z h1060 ad1048 .long [(.long l0), (.long l1), (.long l2), (.long l3)] := B1060
          obtain ⟨La1063, hLa1063⟩ : ∃ L : Array Slot, L = #[.val (.long l0), .second, .val (.long l1), .second, .val (.long l2), .second, .val (.long u0), .second, .val (.long u1), .second, .val (.int sel), .val (.int mm), .val (.int (1 : Int32)), .val (.int (1 : Int32)), .val (.int (0 : Int32)), .val (.int (1 : Int32)), .val (.long u0), .second, .val (.long u1), .second, .val (.long v2), .second, .val (.long v3), .second, .val (.int (3 : Int32)), .val (.ref ad1013), .val (.ref ad1017), .val (.int (3 : Int32)), .val (.long l3), .second, .val (.ref ad1048), .unset, .unset, .unset, .unset, .unset, .unset, .unset, .unset, .unset] := ⟨_, rfl⟩
          refine own_up (S' := T1060.setTop (mkF m 258 La1063 [])) (fun t stp => XS.astore X1060.here hx rfl (hb hby at_256) rfl rfl (l' := La1063) (by rw [hLa1047, hLa1063]; rfl) stp) ?_
          refine own_new X1060 hx hZ hown (hw _ (List.mem_of_getElem? (i := 2) rfl)) (hw _ (List.mem_of_getElem? (i := 3) rfl)) (hw _ (List.mem_of_getElem? (i := 4) rfl)) e1060 rfl (hb hby at_258) (by decide) (by decide) ?_
          intro T1064 h1064 ob hb1064 X1064 e1064 E1064 A1064 D1064
          have ne1064_ad1013_ob : ad1013 ≠ ob := Nat.ne_of_lt (Nat.lt_of_lt_of_eq (own_Al_lt Al1040_1062) hb1064.symm)
          have ne1064_ad1017_ob : ad1017 ≠ ob := Nat.ne_of_lt (Nat.lt_of_lt_of_eq (own_Al_lt Al1043_1062) hb1064.symm)
          have ne1064_ad1048_ob : ad1048 ≠ ob := Nat.ne_of_lt (Nat.lt_of_lt_of_eq (own_Al_lt Al1060) hb1064.symm)
          have g_ob : n0 ≤ ob := Nat.le_trans Zn1061 (Nat.le_of_eq hb1064.symm)
          have Zn1065 := Nat.le_trans Zn1061 E1064.1
          have Al1040_1066 := own_Al_ext E1064 Al1040_1062
          have Al1043_1066 := own_Al_ext E1064 Al1043_1062
          have Al1060_1066 := own_Al_ext E1064 Al1060
          have Fresources_ob : Fld Z h1064 ob "com/example/outcry/outcry/combinatorial/Bundle" "resources" "[I" .null := D1064 (Or.inr (hw _ (List.mem_of_getElem? (i := 17) rfl))) (ty := (.array .int)) (by decide)
          have Funits_ob : Fld Z h1064 ob "com/example/outcry/outcry/combinatorial/Bundle" "units" "[J" .null := D1064 (Or.inr (hw _ (List.mem_of_getElem? (i := 19) rfl))) (ty := (.array .long)) (by decide)
          show own_Ends p e below s (own_Q0 Z l0 l1 l2 u0 u1 sel h0 n0) room_1.cells room_1.slots (T1064.setTop (mkF m 261 La1063 [(.ref ob)]))
          refine own_up (S' := T1064.setTop (mkF m 262 La1063 [(.ref ob), (.ref ob)])) (fun t stp => XS.dup X1064.here hx rfl (hb hby at_261) rfl rfl stp) ?_
          refine own_up (S' := T1064.setTop (mkF m 264 La1063 [(.ref ad1013), (.ref ob), (.ref ob)])) (fun t stp => XS.aload X1064.here hx rfl (hb hby at_262) (by rw [hLa1063]; rfl) rfl stp) ?_
          refine own_up (S' := T1064.setTop (mkF m 266 La1063 [(.ref ad1017), (.ref ad1013), (.ref ob), (.ref ob)])) (fun t stp => XS.aload X1064.here hx rfl (hb hby at_264) (by rw [hLa1063]; rfl) rfl stp) ?_
          refine own_callI X1064 hx hZ rfl hown (hw _ (List.mem_of_getElem? (i := 5) rfl)) (hw _ (List.mem_of_getElem? (i := 6) rfl)) (hw _ (List.mem_of_getElem? (i := 4) rfl)) (hw _ (List.mem_of_getElem? (i := 7) rfl)) (by decide) e1064 (rm2 l Z a0 hw [] ob ad1013 ad1017 h1064 n0 Zn1065 Fresources_ob Funits_ob A1064 g_ob) 1 ob [(.ref ad1013), (.ref ad1017)] [(.ref ob)] (hb hby at_266) (lenOf own_pd1 rfl) (by decide) (by decide) (by decide) (by decide) rfl (by rw [hml, hLa1063]; rfl) rfl (by show 2 * 0 + _ ≤ _; exact Nat.le_of_eq rfl) rfl ?_
          intro T1067 L1067 r1067 X1067 q1067
          obtain ⟨rfl, M1067, K1067, G1067a_1067, G1067b_1067⟩ := q1067
          have N1067 := Fr.app N1060 M1067
          have Zn1068 := Nat.le_trans Zn1065 K1067.1
          have Al1040_1069 := own_Al_keep K1067 Al1040_1066 (ninS ne1064_ad1013_ob nin0)
          have Al1043_1069 := own_Al_keep K1067 Al1043_1066 (ninS ne1064_ad1017_ob nin0)
          have Al1060_1069 := own_Al_keep K1067 Al1060_1066 (ninS ne1064_ad1048_ob nin0)
          have A1064_1069 := A1064.keep K1067
          show own_Ends p e below s (own_Q0 Z l0 l1 l2 u0 u1 sel h0 n0) room_1.cells room_1.slots (T1067.setTop (mkF m 269 La1063 [(.ref ob)]))
          obtain ⟨La1070, hLa1070⟩ : ∃ L : Array Slot, L = #[.val (.long l0), .second, .val (.long l1), .second, .val (.long l2), .second, .val (.long u0), .second, .val (.long u1), .second, .val (.int sel), .val (.int mm), .val (.int (1 : Int32)), .val (.int (1 : Int32)), .val (.int (0 : Int32)), .val (.int (1 : Int32)), .val (.long u0), .second, .val (.long u1), .second, .val (.long v2), .second, .val (.long v3), .second, .val (.int (3 : Int32)), .val (.ref ad1013), .val (.ref ad1017), .val (.int (3 : Int32)), .val (.long l3), .second, .val (.ref ad1048), .val (.ref ob), .unset, .unset, .unset, .unset, .unset, .unset, .unset, .unset] := ⟨_, rfl⟩
          refine own_up (S' := T1067.setTop (mkF m 271 La1070 [])) (fun t stp => XS.astore X1067.here hx rfl (hb hby at_269) rfl rfl (l' := La1070) (by rw [hLa1063, hLa1070]; rfl) stp) ?_
          refine own_up (S' := T1067.setTop (mkF m 273 La1070 [(.ref ob)])) (fun t stp => XS.aload X1067.here hx rfl (hb hby at_271) (by rw [hLa1070]; rfl) rfl stp) ?_
          refine own_up (S' := T1067.setTop (mkF m 275 La1070 [(.ref ad1048), (.ref ob)])) (fun t stp => XS.aload X1067.here hx rfl (hb hby at_273) (by rw [hLa1070]; rfl) rfl stp) ?_
          refine own_callV X1067 hx hZ hown (hw _ (List.mem_of_getElem? (i := 20) rfl)) (hw _ (List.mem_of_getElem? (i := 21) rfl)) (hw _ (List.mem_of_getElem? (i := 23) rfl)) (hw _ (List.mem_of_getElem? (i := 22) rfl)) (hw _ (List.mem_of_getElem? (i := 4) rfl)) (hw _ (List.mem_of_getElem? (i := 24) rfl)) (by decide) rfl (rm13 l Z a0 hw [] ob ad1048 ad1013 ad1017 [(.long l0), (.long l1), (.long l2), (.long l3)] (0 : Int32) u0 (0) l0 (1 : Int32) u1 (1) l1 (3 : Int32) v3 (3) l3 T1067.heap n0 Zn1068 G1067a_1067 G1067b_1067 Al1040_1069 Al1043_1069 Al1060_1069 g_ad1048 ne1048_ad1013_ad1048 ne1048_ad1017_ad1048 (Ne.symm ne1064_ad1048_ob) (rfl) (rfl) (rfl) (rfl) (rfl) (rfl)) 0 A1064_1069 [(.ref ad1048)] [] (hb hby at_275) (lenOf own_pd2 rfl) (by decide) (by decide) (by decide) (by decide) rfl (by rw [hml, hLa1070]; rfl) rfl (by show 2 * 0 + _ ≤ _; exact Nat.le_of_eq rfl) rfl ?_
          intro T1071 L1071 r1071 X1071 q1071
          obtain ⟨rfl, M1071, K1071, G1071a_1071⟩ := q1071
          have N1071 := Fr.app N1067 M1071
          have Zn1072 := Nat.le_trans Zn1068 K1071.1
          have Al1040_1073 := own_Al_keep K1071 Al1040_1069 (ninS ne1048_ad1013_ad1048 nin0)
          have Al1043_1073 := own_Al_keep K1071 Al1043_1069 (ninS ne1048_ad1017_ad1048 nin0)
          have A1064_1073 := A1064_1069.keep K1071
          have G1067a_1073 := G1067a_1067.keep K1071 (ninS (Ne.symm ne1064_ad1048_ob) nin0)
          have G1067b_1073 := G1067b_1067.keep K1071 (ninS (Ne.symm ne1064_ad1048_ob) nin0)
          show own_Ends p e below s (own_Q0 Z l0 l1 l2 u0 u1 sel h0 n0) room_1.cells room_1.slots (T1071.setTop (mkF m 278 La1070 []))
          have Tk1071 : own_Al Z T1071.heap ad1048 .long [(.long (l0 - u0)), (.long (l1 - u1)), (.long l2), (.long (l3 - v3))] := G1071a_1071
          refine own_up (S' := T1071.setTop (mkF m 280 La1070 [(.int (1 : Int32))])) (fun t stp => XS.iload X1071.here hx rfl (hb hby at_278) (by rw [hLa1070]; rfl) stp) ?_
          have hc280_1074 : ¬ ((1 : Int32) = 0) := hc88_1008
          refine own_up (S' := T1071.setTop (mkF m 283 La1070 [])) (fun t stp => XS.ifNo X1071.here hx rfl (hb hby at_280) rfl (XT.i0_eq_f hc280_1074) stp) ?_
          refine own_up (S' := T1071.setTop (mkF m 284 La1070 [(.long l0)])) (fun t stp => XT.lloadN X1071.here hx rfl (hb hby at_283) (by rw [hLa1070]; rfl) stp) ?_
          refine own_up (S' := T1071.setTop (mkF m 286 La1070 [(.long u0), (.long l0)])) (fun t stp => XT.lload X1071.here hx rfl (hb hby at_284) (by rw [hLa1070]; rfl) stp) ?_
          refine own_up (S' := T1071.setTop (mkF m 287 La1070 [(.long (l0 - u0))])) (fun t stp => XT.lsub X1071.here hx rfl (hb hby at_286) rfl stp) ?_
          refine own_up (S' := T1071.setTop (mkF m 291 La1070 [(.long (l0 - u0))])) (fun t stp => XS.goto X1071.here hx rfl (pc0 := 287) (pc' := 291) rfl (hb hby at_287) (by decide) (by decide) stp) ?_
          obtain ⟨e0q, h_e0q⟩ : ∃ z : Int64, z = (l0 - u0) := ⟨_, rfl⟩
          rw [← h_e0q]
          obtain ⟨La1075, hLa1075⟩ : ∃ L : Array Slot, L = #[.val (.long l0), .second, .val (.long l1), .second, .val (.long l2), .second, .val (.long u0), .second, .val (.long u1), .second, .val (.int sel), .val (.int mm), .val (.int (1 : Int32)), .val (.int (1 : Int32)), .val (.int (0 : Int32)), .val (.int (1 : Int32)), .val (.long u0), .second, .val (.long u1), .second, .val (.long v2), .second, .val (.long v3), .second, .val (.int (3 : Int32)), .val (.ref ad1013), .val (.ref ad1017), .val (.int (3 : Int32)), .val (.long l3), .second, .val (.ref ad1048), .val (.ref ob), .val (.long e0q), .second, .unset, .unset, .unset, .unset, .unset, .unset] := ⟨_, rfl⟩
          refine own_up (S' := T1071.setTop (mkF m 293 La1075 [])) (fun t stp => XT.lstore X1071.here hx rfl (hb hby at_291) rfl (l' := La1075) (by rw [hLa1070, hLa1075]; rfl) stp) ?_
          refine own_up (S' := T1071.setTop (mkF m 295 La1075 [(.int (1 : Int32))])) (fun t stp => XS.iload X1071.here hx rfl (hb hby at_293) (by rw [hLa1075]; rfl) stp) ?_
          have hc295_1076 : ¬ ((1 : Int32) = 0) := hc88_1008
          refine own_up (S' := T1071.setTop (mkF m 298 La1075 [])) (fun t stp => XS.ifNo X1071.here hx rfl (hb hby at_295) rfl (XT.i0_eq_f hc295_1076) stp) ?_
          refine own_up (S' := T1071.setTop (mkF m 299 La1075 [(.long l1)])) (fun t stp => XT.lloadN X1071.here hx rfl (hb hby at_298) (by rw [hLa1075]; rfl) stp) ?_
          refine own_up (S' := T1071.setTop (mkF m 301 La1075 [(.long u1), (.long l1)])) (fun t stp => XT.lload X1071.here hx rfl (hb hby at_299) (by rw [hLa1075]; rfl) stp) ?_
          refine own_up (S' := T1071.setTop (mkF m 302 La1075 [(.long (l1 - u1))])) (fun t stp => XT.lsub X1071.here hx rfl (hb hby at_301) rfl stp) ?_
          refine own_up (S' := T1071.setTop (mkF m 306 La1075 [(.long (l1 - u1))])) (fun t stp => XS.goto X1071.here hx rfl (pc0 := 302) (pc' := 306) rfl (hb hby at_302) (by decide) (by decide) stp) ?_
          obtain ⟨e1q, h_e1q⟩ : ∃ z : Int64, z = (l1 - u1) := ⟨_, rfl⟩
          rw [← h_e1q]
          obtain ⟨La1077, hLa1077⟩ : ∃ L : Array Slot, L = #[.val (.long l0), .second, .val (.long l1), .second, .val (.long l2), .second, .val (.long u0), .second, .val (.long u1), .second, .val (.int sel), .val (.int mm), .val (.int (1 : Int32)), .val (.int (1 : Int32)), .val (.int (0 : Int32)), .val (.int (1 : Int32)), .val (.long u0), .second, .val (.long u1), .second, .val (.long v2), .second, .val (.long v3), .second, .val (.int (3 : Int32)), .val (.ref ad1013), .val (.ref ad1017), .val (.int (3 : Int32)), .val (.long l3), .second, .val (.ref ad1048), .val (.ref ob), .val (.long e0q), .second, .val (.long e1q), .second, .unset, .unset, .unset, .unset] := ⟨_, rfl⟩
          refine own_up (S' := T1071.setTop (mkF m 308 La1077 [])) (fun t stp => XT.lstore X1071.here hx rfl (hb hby at_306) rfl (l' := La1077) (by rw [hLa1075, hLa1077]; rfl) stp) ?_
          refine own_up (S' := T1071.setTop (mkF m 310 La1077 [(.int (0 : Int32))])) (fun t stp => XS.iload X1071.here hx rfl (hb hby at_308) (by rw [hLa1077]; rfl) stp) ?_
          have hc310_1078 : (0 : Int32) = 0 := hc109_1010
          refine own_up (S' := T1071.setTop (mkF m 321 La1077 [])) (fun t stp => XS.ifYes X1071.here hx rfl (pc0 := 310) (pc' := 321) rfl (hb hby at_310) rfl (XT.i0_eq_t hc310_1078) (by decide) (by decide) stp) ?_
          refine own_up (S' := T1071.setTop (mkF m 323 La1077 [(.long l2)])) (fun t stp => XT.lload X1071.here hx rfl (hb hby at_321) (by rw [hLa1077]; rfl) stp) ?_
          obtain ⟨La1079, hLa1079⟩ : ∃ L : Array Slot, L = #[.val (.long l0), .second, .val (.long l1), .second, .val (.long l2), .second, .val (.long u0), .second, .val (.long u1), .second, .val (.int sel), .val (.int mm), .val (.int (1 : Int32)), .val (.int (1 : Int32)), .val (.int (0 : Int32)), .val (.int (1 : Int32)), .val (.long u0), .second, .val (.long u1), .second, .val (.long v2), .second, .val (.long v3), .second, .val (.int (3 : Int32)), .val (.ref ad1013), .val (.ref ad1017), .val (.int (3 : Int32)), .val (.long l3), .second, .val (.ref ad1048), .val (.ref ob), .val (.long e0q), .second, .val (.long e1q), .second, .val (.long l2), .second, .unset, .unset] := ⟨_, rfl⟩
          refine own_up (S' := T1071.setTop (mkF m 325 La1079 [])) (fun t stp => XT.lstore X1071.here hx rfl (hb hby at_323) rfl (l' := La1079) (by rw [hLa1077, hLa1079]; rfl) stp) ?_
          refine own_up (S' := T1071.setTop (mkF m 327 La1079 [(.int (1 : Int32))])) (fun t stp => XS.iload X1071.here hx rfl (hb hby at_325) (by rw [hLa1079]; rfl) stp) ?_
          have hc327_1080 : ¬ ((1 : Int32) = 0) := hc88_1008
          refine own_up (S' := T1071.setTop (mkF m 330 La1079 [])) (fun t stp => XS.ifNo X1071.here hx rfl (hb hby at_327) rfl (XT.i0_eq_f hc327_1080) stp) ?_
          refine own_up (S' := T1071.setTop (mkF m 332 La1079 [(.long l3)])) (fun t stp => XT.lload X1071.here hx rfl (hb hby at_330) (by rw [hLa1079]; rfl) stp) ?_
          refine own_up (S' := T1071.setTop (mkF m 334 La1079 [(.long v3), (.long l3)])) (fun t stp => XT.lload X1071.here hx rfl (hb hby at_332) (by rw [hLa1079]; rfl) stp) ?_
          refine own_up (S' := T1071.setTop (mkF m 335 La1079 [(.long (l3 - v3))])) (fun t stp => XT.lsub X1071.here hx rfl (hb hby at_334) rfl stp) ?_
          refine own_up (S' := T1071.setTop (mkF m 340 La1079 [(.long (l3 - v3))])) (fun t stp => XS.goto X1071.here hx rfl (pc0 := 335) (pc' := 340) rfl (hb hby at_335) (by decide) (by decide) stp) ?_
          obtain ⟨e3q, h_e3q⟩ : ∃ z : Int64, z = (l3 - v3) := ⟨_, rfl⟩
          rw [← h_e3q]
          obtain ⟨La1081, hLa1081⟩ : ∃ L : Array Slot, L = #[.val (.long l0), .second, .val (.long l1), .second, .val (.long l2), .second, .val (.long u0), .second, .val (.long u1), .second, .val (.int sel), .val (.int mm), .val (.int (1 : Int32)), .val (.int (1 : Int32)), .val (.int (0 : Int32)), .val (.int (1 : Int32)), .val (.long u0), .second, .val (.long u1), .second, .val (.long v2), .second, .val (.long v3), .second, .val (.int (3 : Int32)), .val (.ref ad1013), .val (.ref ad1017), .val (.int (3 : Int32)), .val (.long l3), .second, .val (.ref ad1048), .val (.ref ob), .val (.long e0q), .second, .val (.long e1q), .second, .val (.long l2), .second, .val (.long e3q), .second] := ⟨_, rfl⟩
          refine own_up (S' := T1071.setTop (mkF m 342 La1081 [])) (fun t stp => XT.lstore X1071.here hx rfl (hb hby at_340) rfl (l' := La1081) (by rw [hLa1079, hLa1081]; rfl) stp) ?_
          refine own_up (S' := T1071.setTop (mkF m 344 La1081 [(.ref ad1048)])) (fun t stp => XS.aload X1071.here hx rfl (hb hby at_342) (by rw [hLa1081]; rfl) rfl stp) ?_
          refine own_len X1071 hx hZ rfl Tk1071 (4 : Int32) (hb hby at_344) (rfl) rfl rfl (g' := (mkF m 345 La1081 [(.int (4 : Int32))])) rfl ?_
          refine own_up (S' := T1071.setTop (mkF m 346 La1081 [(.int (4 : Int32)), (.int (4 : Int32))])) (fun t stp => XT.iconstV X1071.here hx rfl (4 : Int32) (hb hby at_345) rfl stp) ?_
          have hc346_1082 : (4 : Int32) = (4 : Int32) := rfl
          refine own_up (S' := T1071.setTop (mkF m 349 La1081 [])) (fun t stp => XS.icmpNo X1071.here hx rfl (hb hby at_346) rfl (XT.ii_ne_f hc346_1082) stp) ?_
          refine own_up (S' := T1071.setTop (mkF m 351 La1081 [(.ref ad1048)])) (fun t stp => XS.aload X1071.here hx rfl (hb hby at_349) (by rw [hLa1081]; rfl) rfl stp) ?_
          refine own_up (S' := T1071.setTop (mkF m 352 La1081 [(.int (0 : Int32)), (.ref ad1048)])) (fun t stp => XT.iconstV X1071.here hx rfl (0 : Int32) (hb hby at_351) rfl stp) ?_
          refine own_ldj X1071 hx hZ rfl Tk1071 (v := (.long (l0 - u0))) 0 (hb hby at_352) (rfl) (rfl) rfl rfl (g' := (mkF m 353 La1081 [(.long (l0 - u0))])) rfl ?_
          refine own_up (S' := T1071.setTop (mkF m 355 La1081 [(.long e0q), (.long (l0 - u0))])) (fun t stp => XT.lload X1071.here hx rfl (hb hby at_353) (by rw [hLa1081]; rfl) stp) ?_
          refine own_up (S' := T1071.setTop (mkF m 356 La1081 [(.int (XT.cmpL (l0 - u0) e0q))])) (fun t stp => XT.lcmp X1071.here hx rfl (hb hby at_355) rfl stp) ?_
          have hc356_1083 : (l0 - u0) = e0q := h_e0q.symm
          have ihc356_1083 : (l0 - u0).toInt = e0q.toInt := own_leq hc356_1083
          refine own_up (S' := T1071.setTop (mkF m 359 La1081 [])) (fun t stp => XS.ifNo X1071.here hx rfl (hb hby at_356) rfl (XT.ll_ne_f hc356_1083) stp) ?_
          refine own_up (S' := T1071.setTop (mkF m 361 La1081 [(.ref ad1048)])) (fun t stp => XS.aload X1071.here hx rfl (hb hby at_359) (by rw [hLa1081]; rfl) rfl stp) ?_
          refine own_up (S' := T1071.setTop (mkF m 362 La1081 [(.int (1 : Int32)), (.ref ad1048)])) (fun t stp => XT.iconstV X1071.here hx rfl (1 : Int32) (hb hby at_361) rfl stp) ?_
          refine own_ldj X1071 hx hZ rfl Tk1071 (v := (.long (l1 - u1))) 1 (hb hby at_362) (rfl) (rfl) rfl rfl (g' := (mkF m 363 La1081 [(.long (l1 - u1))])) rfl ?_
          refine own_up (S' := T1071.setTop (mkF m 365 La1081 [(.long e1q), (.long (l1 - u1))])) (fun t stp => XT.lload X1071.here hx rfl (hb hby at_363) (by rw [hLa1081]; rfl) stp) ?_
          refine own_up (S' := T1071.setTop (mkF m 366 La1081 [(.int (XT.cmpL (l1 - u1) e1q))])) (fun t stp => XT.lcmp X1071.here hx rfl (hb hby at_365) rfl stp) ?_
          have hc366_1084 : (l1 - u1) = e1q := h_e1q.symm
          have ihc366_1084 : (l1 - u1).toInt = e1q.toInt := own_leq hc366_1084
          refine own_up (S' := T1071.setTop (mkF m 369 La1081 [])) (fun t stp => XS.ifNo X1071.here hx rfl (hb hby at_366) rfl (XT.ll_ne_f hc366_1084) stp) ?_
          refine own_up (S' := T1071.setTop (mkF m 371 La1081 [(.ref ad1048)])) (fun t stp => XS.aload X1071.here hx rfl (hb hby at_369) (by rw [hLa1081]; rfl) rfl stp) ?_
          refine own_up (S' := T1071.setTop (mkF m 372 La1081 [(.int (2 : Int32)), (.ref ad1048)])) (fun t stp => XT.iconstV X1071.here hx rfl (2 : Int32) (hb hby at_371) rfl stp) ?_
          refine own_ldj X1071 hx hZ rfl Tk1071 (v := (.long l2)) 2 (hb hby at_372) (rfl) (rfl) rfl rfl (g' := (mkF m 373 La1081 [(.long l2)])) rfl ?_
          refine own_up (S' := T1071.setTop (mkF m 375 La1081 [(.long l2), (.long l2)])) (fun t stp => XT.lload X1071.here hx rfl (hb hby at_373) (by rw [hLa1081]; rfl) stp) ?_
          refine own_up (S' := T1071.setTop (mkF m 376 La1081 [(.int (XT.cmpL l2 l2))])) (fun t stp => XT.lcmp X1071.here hx rfl (hb hby at_375) rfl stp) ?_
          have hc376_1085 : l2 = l2 := rfl
          have ihc376_1085 : l2.toInt = l2.toInt := own_leq hc376_1085
          refine own_up (S' := T1071.setTop (mkF m 379 La1081 [])) (fun t stp => XS.ifNo X1071.here hx rfl (hb hby at_376) rfl (XT.ll_ne_f hc376_1085) stp) ?_
          refine own_up (S' := T1071.setTop (mkF m 381 La1081 [(.ref ad1048)])) (fun t stp => XS.aload X1071.here hx rfl (hb hby at_379) (by rw [hLa1081]; rfl) rfl stp) ?_
          refine own_up (S' := T1071.setTop (mkF m 382 La1081 [(.int (3 : Int32)), (.ref ad1048)])) (fun t stp => XT.iconstV X1071.here hx rfl (3 : Int32) (hb hby at_381) rfl stp) ?_
          refine own_ldj X1071 hx hZ rfl Tk1071 (v := (.long (l3 - v3))) 3 (hb hby at_382) (rfl) (rfl) rfl rfl (g' := (mkF m 383 La1081 [(.long (l3 - v3))])) rfl ?_
          refine own_up (S' := T1071.setTop (mkF m 385 La1081 [(.long e3q), (.long (l3 - v3))])) (fun t stp => XT.lload X1071.here hx rfl (hb hby at_383) (by rw [hLa1081]; rfl) stp) ?_
          refine own_up (S' := T1071.setTop (mkF m 386 La1081 [(.int (XT.cmpL (l3 - v3) e3q))])) (fun t stp => XT.lcmp X1071.here hx rfl (hb hby at_385) rfl stp) ?_
          have hc386_1086 : (l3 - v3) = e3q := h_e3q.symm
          have ihc386_1086 : (l3 - v3).toInt = e3q.toInt := own_leq hc386_1086
          refine own_up (S' := T1071.setTop (mkF m 389 La1081 [])) (fun t stp => XS.ifNo X1071.here hx rfl (hb hby at_386) rfl (XT.ll_ne_f hc386_1086) stp) ?_
          refine own_up (S' := T1071.setTop (mkF m 390 La1081 [(.int (1 : Int32))])) (fun t stp => XT.iconstV X1071.here hx rfl (1 : Int32) (hb hby at_389) rfl stp) ?_
          refine own_up (S' := T1071.setTop (mkF m 394 La1081 [(.int (1 : Int32))])) (fun t stp => XS.goto X1071.here hx rfl (pc0 := 390) (pc' := 394) rfl (hb hby at_390) (by decide) (by decide) stp) ?_
          refine own_retN X1071 hx hlk (t := .boolean) hret (by simp) (z' := (1 : Int32)) rfl (hb hby at_394) (by decide) (by decide) ?_
          show own_Q0 Z l0 l1 l2 u0 u1 sel h0 n0 _ T1071.heap _
          exact ⟨rfl, N1071⟩
      · have ihc39_923 : (mm &&& (4 : Int32)).toInt ≠ 0 := own_ine hc39_923
        refine own_up (S' := T0.setTop (mkF m 42 La922 [])) (fun t stp => XS.ifNo X0.here hx rfl (hb hby at_39) rfl (XT.i0_eq_f hc39_923) stp) ?_
        refine own_up (S' := T0.setTop (mkF m 43 La922 [(.int (1 : Int32))])) (fun t stp => XT.iconstV X0.here hx rfl (1 : Int32) (hb hby at_42) rfl stp) ?_
        refine own_up (S' := T0.setTop (mkF m 47 La922 [(.int (1 : Int32))])) (fun t stp => XS.goto X0.here hx rfl (pc0 := 43) (pc' := 47) rfl (hb hby at_43) (by decide) (by decide) stp) ?_
        obtain ⟨La1087, hLa1087⟩ : ∃ L : Array Slot, L = #[.val (.long l0), .second, .val (.long l1), .second, .val (.long l2), .second, .val (.long u0), .second, .val (.long u1), .second, .val (.int sel), .val (.int mm), .val (.int (1 : Int32)), .val (.int (1 : Int32)), .val (.int (1 : Int32)), .unset, .unset, .unset, .unset, .unset, .unset, .unset, .unset, .unset, .unset, .unset, .unset, .unset, .unset, .unset, .unset, .unset, .unset, .unset, .unset, .unset, .unset, .unset, .unset, .unset] := ⟨_, rfl⟩
        refine own_up (S' := T0.setTop (mkF m 49 La1087 [])) (fun t stp => XS.istore X0.here hx rfl (hb hby at_47) rfl (l' := La1087) (by rw [hLa922, hLa1087]; rfl) stp) ?_
        refine own_up (S' := T0.setTop (mkF m 51 La1087 [(.int mm)])) (fun t stp => XS.iload X0.here hx rfl (hb hby at_49) (by rw [hLa1087]; rfl) stp) ?_
        refine own_up (S' := T0.setTop (mkF m 53 La1087 [(.int (8 : Int32)), (.int mm)])) (fun t stp => XT.bipushV X0.here hx rfl (8 : Int32) (hb hby at_51) rfl stp) ?_
        refine own_up (S' := T0.setTop (mkF m 54 La1087 [(.int (mm &&& (8 : Int32)))])) (fun t stp => XS.iand X0.here hx rfl (hb hby at_53) rfl stp) ?_
        by_cases hc54_1088 : (mm &&& (8 : Int32)) = 0
        · have ihc54_1088 : (mm &&& (8 : Int32)).toInt = 0 := own_ieq hc54_1088
          refine own_up (S' := T0.setTop (mkF m 61 La1087 [])) (fun t stp => XS.ifYes X0.here hx rfl (pc0 := 54) (pc' := 61) rfl (hb hby at_54) rfl (XT.i0_eq_t hc54_1088) (by decide) (by decide) stp) ?_
          refine own_up (S' := T0.setTop (mkF m 62 La1087 [(.int (0 : Int32))])) (fun t stp => XT.iconstV X0.here hx rfl (0 : Int32) (hb hby at_61) rfl stp) ?_
          obtain ⟨La1089, hLa1089⟩ : ∃ L : Array Slot, L = #[.val (.long l0), .second, .val (.long l1), .second, .val (.long l2), .second, .val (.long u0), .second, .val (.long u1), .second, .val (.int sel), .val (.int mm), .val (.int (1 : Int32)), .val (.int (1 : Int32)), .val (.int (1 : Int32)), .val (.int (0 : Int32)), .unset, .unset, .unset, .unset, .unset, .unset, .unset, .unset, .unset, .unset, .unset, .unset, .unset, .unset, .unset, .unset, .unset, .unset, .unset, .unset, .unset, .unset, .unset, .unset] := ⟨_, rfl⟩
          refine own_up (S' := T0.setTop (mkF m 64 La1089 [])) (fun t stp => XS.istore X0.here hx rfl (hb hby at_62) rfl (l' := La1089) (by rw [hLa1087, hLa1089]; rfl) stp) ?_
          refine own_up (S' := T0.setTop (mkF m 66 La1089 [(.long u0)])) (fun t stp => XT.lload X0.here hx rfl (hb hby at_64) (by rw [hLa1089]; rfl) stp) ?_
          obtain ⟨La1090, hLa1090⟩ : ∃ L : Array Slot, L = #[.val (.long l0), .second, .val (.long l1), .second, .val (.long l2), .second, .val (.long u0), .second, .val (.long u1), .second, .val (.int sel), .val (.int mm), .val (.int (1 : Int32)), .val (.int (1 : Int32)), .val (.int (1 : Int32)), .val (.int (0 : Int32)), .val (.long u0), .second, .unset, .unset, .unset, .unset, .unset, .unset, .unset, .unset, .unset, .unset, .unset, .unset, .unset, .unset, .unset, .unset, .unset, .unset, .unset, .unset, .unset, .unset] := ⟨_, rfl⟩
          refine own_up (S' := T0.setTop (mkF m 68 La1090 [])) (fun t stp => XT.lstore X0.here hx rfl (hb hby at_66) rfl (l' := La1090) (by rw [hLa1089, hLa1090]; rfl) stp) ?_
          refine own_up (S' := T0.setTop (mkF m 70 La1090 [(.long u1)])) (fun t stp => XT.lload X0.here hx rfl (hb hby at_68) (by rw [hLa1090]; rfl) stp) ?_
          obtain ⟨La1091, hLa1091⟩ : ∃ L : Array Slot, L = #[.val (.long l0), .second, .val (.long l1), .second, .val (.long l2), .second, .val (.long u0), .second, .val (.long u1), .second, .val (.int sel), .val (.int mm), .val (.int (1 : Int32)), .val (.int (1 : Int32)), .val (.int (1 : Int32)), .val (.int (0 : Int32)), .val (.long u0), .second, .val (.long u1), .second, .unset, .unset, .unset, .unset, .unset, .unset, .unset, .unset, .unset, .unset, .unset, .unset, .unset, .unset, .unset, .unset, .unset, .unset, .unset, .unset] := ⟨_, rfl⟩
          refine own_up (S' := T0.setTop (mkF m 72 La1091 [])) (fun t stp => XT.lstore X0.here hx rfl (hb hby at_70) rfl (l' := La1091) (by rw [hLa1090, hLa1091]; rfl) stp) ?_
          refine own_up (S' := T0.setTop (mkF m 74 La1091 [(.long u0)])) (fun t stp => XT.lload X0.here hx rfl (hb hby at_72) (by rw [hLa1091]; rfl) stp) ?_
          refine own_up (S' := T0.setTop (mkF m 76 La1091 [(.long u1), (.long u0)])) (fun t stp => XT.lload X0.here hx rfl (hb hby at_74) (by rw [hLa1091]; rfl) stp) ?_
          refine own_up (S' := T0.setTop (mkF m 77 La1091 [(.long (u0 - u1))])) (fun t stp => XT.lsub X0.here hx rfl (hb hby at_76) rfl stp) ?_
          obtain ⟨v2, h_v2⟩ : ∃ z : Int64, z = (u0 - u1) := ⟨_, rfl⟩
          rw [← h_v2]
          obtain ⟨La1092, hLa1092⟩ : ∃ L : Array Slot, L = #[.val (.long l0), .second, .val (.long l1), .second, .val (.long l2), .second, .val (.long u0), .second, .val (.long u1), .second, .val (.int sel), .val (.int mm), .val (.int (1 : Int32)), .val (.int (1 : Int32)), .val (.int (1 : Int32)), .val (.int (0 : Int32)), .val (.long u0), .second, .val (.long u1), .second, .val (.long v2), .second, .unset, .unset, .unset, .unset, .unset, .unset, .unset, .unset, .unset, .unset, .unset, .unset, .unset, .unset, .unset, .unset, .unset, .unset] := ⟨_, rfl⟩
          refine own_up (S' := T0.setTop (mkF m 79 La1092 [])) (fun t stp => XT.lstore X0.here hx rfl (hb hby at_77) rfl (l' := La1092) (by rw [hLa1091, hLa1092]; rfl) stp) ?_
          refine own_up (S' := T0.setTop (mkF m 81 La1092 [(.long u1)])) (fun t stp => XT.lload X0.here hx rfl (hb hby at_79) (by rw [hLa1092]; rfl) stp) ?_
          refine own_up (S' := T0.setTop (mkF m 83 La1092 [(.long l2), (.long u1)])) (fun t stp => XT.lload X0.here hx rfl (hb hby at_81) (by rw [hLa1092]; rfl) stp) ?_
          refine own_up (S' := T0.setTop (mkF m 84 La1092 [(.long (u1 ^^^ l2))])) (fun t stp => XT.lxor X0.here hx rfl (hb hby at_83) rfl stp) ?_
          obtain ⟨v3, h_v3⟩ : ∃ z : Int64, z = (u1 ^^^ l2) := ⟨_, rfl⟩
          rw [← h_v3]
          obtain ⟨La1093, hLa1093⟩ : ∃ L : Array Slot, L = #[.val (.long l0), .second, .val (.long l1), .second, .val (.long l2), .second, .val (.long u0), .second, .val (.long u1), .second, .val (.int sel), .val (.int mm), .val (.int (1 : Int32)), .val (.int (1 : Int32)), .val (.int (1 : Int32)), .val (.int (0 : Int32)), .val (.long u0), .second, .val (.long u1), .second, .val (.long v2), .second, .val (.long v3), .second, .unset, .unset, .unset, .unset, .unset, .unset, .unset, .unset, .unset, .unset, .unset, .unset, .unset, .unset, .unset, .unset] := ⟨_, rfl⟩
          refine own_up (S' := T0.setTop (mkF m 86 La1093 [])) (fun t stp => XT.lstore X0.here hx rfl (hb hby at_84) rfl (l' := La1093) (by rw [hLa1092, hLa1093]; rfl) stp) ?_
          refine own_up (S' := T0.setTop (mkF m 88 La1093 [(.int (1 : Int32))])) (fun t stp => XS.iload X0.here hx rfl (hb hby at_86) (by rw [hLa1093]; rfl) stp) ?_
          have hc88_1094 : ¬ ((1 : Int32) = 0) := by decide
          refine own_up (S' := T0.setTop (mkF m 91 La1093 [])) (fun t stp => XS.ifNo X0.here hx rfl (hb hby at_88) rfl (XT.i0_eq_f hc88_1094) stp) ?_
          refine own_up (S' := T0.setTop (mkF m 92 La1093 [(.int (1 : Int32))])) (fun t stp => XT.iconstV X0.here hx rfl (1 : Int32) (hb hby at_91) rfl stp) ?_
          refine own_up (S' := T0.setTop (mkF m 96 La1093 [(.int (1 : Int32))])) (fun t stp => XS.goto X0.here hx rfl (pc0 := 92) (pc' := 96) rfl (hb hby at_92) (by decide) (by decide) stp) ?_
          refine own_up (S' := T0.setTop (mkF m 98 La1093 [(.int (1 : Int32)), (.int (1 : Int32))])) (fun t stp => XS.iload X0.here hx rfl (hb hby at_96) (by rw [hLa1093]; rfl) stp) ?_
          have hc98_1095 : ¬ ((1 : Int32) = 0) := hc88_1094
          refine own_up (S' := T0.setTop (mkF m 101 La1093 [(.int (1 : Int32))])) (fun t stp => XS.ifNo X0.here hx rfl (hb hby at_98) rfl (XT.i0_eq_f hc98_1095) stp) ?_
          refine own_up (S' := T0.setTop (mkF m 102 La1093 [(.int (1 : Int32)), (.int (1 : Int32))])) (fun t stp => XT.iconstV X0.here hx rfl (1 : Int32) (hb hby at_101) rfl stp) ?_
          refine own_up (S' := T0.setTop (mkF m 106 La1093 [(.int (1 : Int32)), (.int (1 : Int32))])) (fun t stp => XS.goto X0.here hx rfl (pc0 := 102) (pc' := 106) rfl (hb hby at_102) (by decide) (by decide) stp) ?_
          refine own_up (S' := T0.setTop (mkF m 107 La1093 [(.int ((1 : Int32) + (1 : Int32)))])) (fun t stp => XS.iadd X0.here hx rfl (hb hby at_106) rfl stp) ?_
          refine own_up (S' := T0.setTop (mkF m 109 La1093 [(.int (1 : Int32)), (.int ((1 : Int32) + (1 : Int32)))])) (fun t stp => XS.iload X0.here hx rfl (hb hby at_107) (by rw [hLa1093]; rfl) stp) ?_
          have hc109_1096 : ¬ ((1 : Int32) = 0) := hc88_1094
          refine own_up (S' := T0.setTop (mkF m 112 La1093 [(.int ((1 : Int32) + (1 : Int32)))])) (fun t stp => XS.ifNo X0.here hx rfl (hb hby at_109) rfl (XT.i0_eq_f hc109_1096) stp) ?_
          refine own_up (S' := T0.setTop (mkF m 113 La1093 [(.int (1 : Int32)), (.int ((1 : Int32) + (1 : Int32)))])) (fun t stp => XT.iconstV X0.here hx rfl (1 : Int32) (hb hby at_112) rfl stp) ?_
          refine own_up (S' := T0.setTop (mkF m 117 La1093 [(.int (1 : Int32)), (.int ((1 : Int32) + (1 : Int32)))])) (fun t stp => XS.goto X0.here hx rfl (pc0 := 113) (pc' := 117) rfl (hb hby at_113) (by decide) (by decide) stp) ?_
          refine own_up (S' := T0.setTop (mkF m 118 La1093 [(.int (((1 : Int32) + (1 : Int32)) + (1 : Int32)))])) (fun t stp => XS.iadd X0.here hx rfl (hb hby at_117) rfl stp) ?_
          refine own_up (S' := T0.setTop (mkF m 120 La1093 [(.int (0 : Int32)), (.int (((1 : Int32) + (1 : Int32)) + (1 : Int32)))])) (fun t stp => XS.iload X0.here hx rfl (hb hby at_118) (by rw [hLa1093]; rfl) stp) ?_
          have hc120_1097 : (0 : Int32) = 0 := by decide
          refine own_up (S' := T0.setTop (mkF m 127 La1093 [(.int (((1 : Int32) + (1 : Int32)) + (1 : Int32)))])) (fun t stp => XS.ifYes X0.here hx rfl (pc0 := 120) (pc' := 127) rfl (hb hby at_120) rfl (XT.i0_eq_t hc120_1097) (by decide) (by decide) stp) ?_
          refine own_up (S' := T0.setTop (mkF m 128 La1093 [(.int (0 : Int32)), (.int (((1 : Int32) + (1 : Int32)) + (1 : Int32)))])) (fun t stp => XT.iconstV X0.here hx rfl (0 : Int32) (hb hby at_127) rfl stp) ?_
          refine own_up (S' := T0.setTop (mkF m 129 La1093 [(.int ((((1 : Int32) + (1 : Int32)) + (1 : Int32)) + (0 : Int32)))])) (fun t stp => XS.iadd X0.here hx rfl (hb hby at_128) rfl stp) ?_
          show own_Ends p e below s (own_Q0 Z l0 l1 l2 u0 u1 sel h0 n0) room_1.cells room_1.slots (T0.setTop (mkF m 129 La1093 [(.int (3 : Int32))]))
          obtain ⟨La1098, hLa1098⟩ : ∃ L : Array Slot, L = #[.val (.long l0), .second, .val (.long l1), .second, .val (.long l2), .second, .val (.long u0), .second, .val (.long u1), .second, .val (.int sel), .val (.int mm), .val (.int (1 : Int32)), .val (.int (1 : Int32)), .val (.int (1 : Int32)), .val (.int (0 : Int32)), .val (.long u0), .second, .val (.long u1), .second, .val (.long v2), .second, .val (.long v3), .second, .val (.int (3 : Int32)), .unset, .unset, .unset, .unset, .unset, .unset, .unset, .unset, .unset, .unset, .unset, .unset, .unset, .unset, .unset] := ⟨_, rfl⟩
          refine own_up (S' := T0.setTop (mkF m 131 La1098 [])) (fun t stp => XS.istore X0.here hx rfl (hb hby at_129) rfl (l' := La1098) (by rw [hLa1093, hLa1098]; rfl) stp) ?_
          refine own_up (S' := T0.setTop (mkF m 133 La1098 [(.int (3 : Int32))])) (fun t stp => XS.iload X0.here hx rfl (hb hby at_131) (by rw [hLa1098]; rfl) stp) ?_
          refine own_newa X0 hx hZ (ty := .int) rfl (hw _ (List.mem_of_getElem? (i := 0) rfl)) e0 3 (hb hby at_133) (rfl) 3 (by decide) (by decide) (by decide) (by decide) rfl rfl ?_
          intro T1099 h1099 ad1099 hb1099 X1099 e1099 E1099 A1099
          have g_ad1099 : n0 ≤ ad1099 := Nat.le_trans Z0 (Nat.le_of_eq hb1099.symm)
          have Zn1100 := Nat.le_trans Z0 E1099.1
          have Al1099 : own_Al Z h1099 ad1099 .int [(.int (0 : Int32)), (.int (0 : Int32)), (.int (0 : Int32))] := A1099
          show own_Ends p e below s (own_Q0 Z l0 l1 l2 u0 u1 sel h0 n0) room_1.cells room_1.slots (T1099.setTop (mkF m 135 La1098 [(.ref ad1099)]))
          obtain ⟨La1102, hLa1102⟩ : ∃ L : Array Slot, L = #[.val (.long l0), .second, .val (.long l1), .second, .val (.long l2), .second, .val (.long u0), .second, .val (.long u1), .second, .val (.int sel), .val (.int mm), .val (.int (1 : Int32)), .val (.int (1 : Int32)), .val (.int (1 : Int32)), .val (.int (0 : Int32)), .val (.long u0), .second, .val (.long u1), .second, .val (.long v2), .second, .val (.long v3), .second, .val (.int (3 : Int32)), .val (.ref ad1099), .unset, .unset, .unset, .unset, .unset, .unset, .unset, .unset, .unset, .unset, .unset, .unset, .unset, .unset] := ⟨_, rfl⟩
          refine own_up (S' := T1099.setTop (mkF m 137 La1102 [])) (fun t stp => XS.astore X1099.here hx rfl (hb hby at_135) rfl rfl (l' := La1102) (by rw [hLa1098, hLa1102]; rfl) stp) ?_
          refine own_up (S' := T1099.setTop (mkF m 139 La1102 [(.int (3 : Int32))])) (fun t stp => XS.iload X1099.here hx rfl (hb hby at_137) (by rw [hLa1102]; rfl) stp) ?_
          refine own_newa X1099 hx hZ (ty := .long) rfl (hw _ (List.mem_of_getElem? (i := 1) rfl)) e1099 3 (hb hby at_139) (rfl) 3 (by decide) (by decide) (by decide) (by decide) rfl rfl ?_
          intro T1103 h1103 ad1103 hb1103 X1103 e1103 E1103 A1103
          have ne1103_ad1099_ad1103 : ad1099 ≠ ad1103 := Nat.ne_of_lt (Nat.lt_of_lt_of_eq (own_Al_lt Al1099) hb1103.symm)
          have g_ad1103 : n0 ≤ ad1103 := Nat.le_trans Zn1100 (Nat.le_of_eq hb1103.symm)
          have Zn1104 := Nat.le_trans Zn1100 E1103.1
          have Al1099_1105 := own_Al_ext E1103 Al1099
          have Al1103 : own_Al Z h1103 ad1103 .long [(.long (0 : Int64)), (.long (0 : Int64)), (.long (0 : Int64))] := A1103
          show own_Ends p e below s (own_Q0 Z l0 l1 l2 u0 u1 sel h0 n0) room_1.cells room_1.slots (T1103.setTop (mkF m 141 La1102 [(.ref ad1103)]))
          obtain ⟨La1106, hLa1106⟩ : ∃ L : Array Slot, L = #[.val (.long l0), .second, .val (.long l1), .second, .val (.long l2), .second, .val (.long u0), .second, .val (.long u1), .second, .val (.int sel), .val (.int mm), .val (.int (1 : Int32)), .val (.int (1 : Int32)), .val (.int (1 : Int32)), .val (.int (0 : Int32)), .val (.long u0), .second, .val (.long u1), .second, .val (.long v2), .second, .val (.long v3), .second, .val (.int (3 : Int32)), .val (.ref ad1099), .val (.ref ad1103), .unset, .unset, .unset, .unset, .unset, .unset, .unset, .unset, .unset, .unset, .unset, .unset, .unset] := ⟨_, rfl⟩
          refine own_up (S' := T1103.setTop (mkF m 143 La1106 [])) (fun t stp => XS.astore X1103.here hx rfl (hb hby at_141) rfl rfl (l' := La1106) (by rw [hLa1102, hLa1106]; rfl) stp) ?_
          refine own_up (S' := T1103.setTop (mkF m 144 La1106 [(.int (0 : Int32))])) (fun t stp => XT.iconstV X1103.here hx rfl (0 : Int32) (hb hby at_143) rfl stp) ?_
          obtain ⟨La1107, hLa1107⟩ : ∃ L : Array Slot, L = #[.val (.long l0), .second, .val (.long l1), .second, .val (.long l2), .second, .val (.long u0), .second, .val (.long u1), .second, .val (.int sel), .val (.int mm), .val (.int (1 : Int32)), .val (.int (1 : Int32)), .val (.int (1 : Int32)), .val (.int (0 : Int32)), .val (.long u0), .second, .val (.long u1), .second, .val (.long v2), .second, .val (.long v3), .second, .val (.int (3 : Int32)), .val (.ref ad1099), .val (.ref ad1103), .val (.int (0 : Int32)), .unset, .unset, .unset, .unset, .unset, .unset, .unset, .unset, .unset, .unset, .unset, .unset] := ⟨_, rfl⟩
          refine own_up (S' := T1103.setTop (mkF m 146 La1107 [])) (fun t stp => XS.istore X1103.here hx rfl (hb hby at_144) rfl (l' := La1107) (by rw [hLa1106, hLa1107]; rfl) stp) ?_
          refine own_up (S' := T1103.setTop (mkF m 148 La1107 [(.int (1 : Int32))])) (fun t stp => XS.iload X1103.here hx rfl (hb hby at_146) (by rw [hLa1107]; rfl) stp) ?_
          have hc148_1108 : ¬ ((1 : Int32) = 0) := hc88_1094
          refine own_up (S' := T1103.setTop (mkF m 151 La1107 [])) (fun t stp => XS.ifNo X1103.here hx rfl (hb hby at_148) rfl (XT.i0_eq_f hc148_1108) stp) ?_
          refine own_up (S' := T1103.setTop (mkF m 153 La1107 [(.ref ad1099)])) (fun t stp => XS.aload X1103.here hx rfl (hb hby at_151) (by rw [hLa1107]; rfl) rfl stp) ?_
          refine own_up (S' := T1103.setTop (mkF m 155 La1107 [(.int (0 : Int32)), (.ref ad1099)])) (fun t stp => XS.iload X1103.here hx rfl (hb hby at_153) (by rw [hLa1107]; rfl) stp) ?_
          refine own_up (S' := T1103.setTop (mkF m 156 La1107 [(.int (0 : Int32)), (.int (0 : Int32)), (.ref ad1099)])) (fun t stp => XT.iconstV X1103.here hx rfl (0 : Int32) (hb hby at_155) rfl stp) ?_
          refine own_sti X1103 hx hZ e1103 Al1099_1105 0 (hb hby at_156) (rfl) (Nat.le_of_ble_eq_true rfl) rfl rfl (g' := (mkF m 157 La1107 [])) rfl ?_
          intro T1109 h1109 X1109 e1109 W1109 B1109
          have Zn1110 := Nat.le_trans Zn1104 (Nat.le_of_eq W1109.size.symm)
          have Al1103_1111 := own_Al_oth W1109 Al1103 (Ne.symm ne1103_ad1099_ad1103)
          have N1109 := Fr.snoc X1109 N0 g_ad1099
          have Al1109 : own_Al Z h1109 ad1099 .int [(.int (0 : Int32)), (.int (0 : Int32)), (.int (0 : Int32))] := B1109
          refine own_up (S' := T1109.setTop (mkF m 159 La1107 [(.ref ad1103)])) (fun t stp => XS.aload X1109.here hx rfl (hb hby at_157) (by rw [hLa1107]; rfl) rfl stp) ?_
          refine own_up (S' := T1109.setTop (mkF m 161 La1107 [(.int (0 : Int32)), (.ref ad1103)])) (fun t stp => XS.iload X1109.here hx rfl (hb hby at_159) (by rw [hLa1107]; rfl) stp) ?_
          refine own_up (S' := T1109.setTop (mkF m 163 La1107 [(.long u0), (.int (0 : Int32)), (.ref ad1103)])) (fun t stp => XT.lload X1109.here hx rfl (hb hby at_161) (by rw [hLa1107]; rfl) stp) ?_
          refine own_stj X1109 hx hZ e1109 Al1103_1111 0 (hb hby at_163) (rfl) (Nat.le_of_ble_eq_true rfl) rfl rfl (g' := (mkF m 164 La1107 [])) rfl ?_
          intro T1112 h1112 X1112 e1112 W1112 B1112
          have Zn1113 := Nat.le_trans Zn1110 (Nat.le_of_eq W1112.size.symm)
          have Al1109_1114 := own_Al_oth W1112 Al1109 ne1103_ad1099_ad1103
          have N1112 := Fr.snoc X1112 N1109 g_ad1103
          have Al1112 : own_Al Z h1112 ad1103 .long [(.long u0), (.long (0 : Int64)), (.long (0 : Int64))] := B1112
          obtain ⟨La1115, hLa1115⟩ : ∃ L : Array Slot, L = #[.val (.long l0), .second, .val (.long l1), .second, .val (.long l2), .second, .val (.long u0), .second, .val (.long u1), .second, .val (.int sel), .val (.int mm), .val (.int (1 : Int32)), .val (.int (1 : Int32)), .val (.int (1 : Int32)), .val (.int (0 : Int32)), .val (.long u0), .second, .val (.long u1), .second, .val (.long v2), .second, .val (.long v3), .second, .val (.int (3 : Int32)), .val (.ref ad1099), .val (.ref ad1103), .val (.int (1 : Int32)), .unset, .unset, .unset, .unset, .unset, .unset, .unset, .unset, .unset, .unset, .unset, .unset] := ⟨_, rfl⟩
          refine own_up (S' := T1112.setTop (mkF m 167 La1115 [])) (fun t stp => XT.iincV X1112.here hx rfl (1 : Int32) (hb hby at_164) rfl (by rw [hLa1107]; rfl) (l' := La1115) (by rw [hLa1107, hLa1115]; rfl) stp) ?_
          refine own_up (S' := T1112.setTop (mkF m 169 La1115 [(.int (1 : Int32))])) (fun t stp => XS.iload X1112.here hx rfl (hb hby at_167) (by rw [hLa1115]; rfl) stp) ?_
          have hc169_1116 : ¬ ((1 : Int32) = 0) := hc88_1094
          refine own_up (S' := T1112.setTop (mkF m 172 La1115 [])) (fun t stp => XS.ifNo X1112.here hx rfl (hb hby at_169) rfl (XT.i0_eq_f hc169_1116) stp) ?_
          refine own_up (S' := T1112.setTop (mkF m 174 La1115 [(.ref ad1099)])) (fun t stp => XS.aload X1112.here hx rfl (hb hby at_172) (by rw [hLa1115]; rfl) rfl stp) ?_
          refine own_up (S' := T1112.setTop (mkF m 176 La1115 [(.int (1 : Int32)), (.ref ad1099)])) (fun t stp => XS.iload X1112.here hx rfl (hb hby at_174) (by rw [hLa1115]; rfl) stp) ?_
          refine own_up (S' := T1112.setTop (mkF m 177 La1115 [(.int (1 : Int32)), (.int (1 : Int32)), (.ref ad1099)])) (fun t stp => XT.iconstV X1112.here hx rfl (1 : Int32) (hb hby at_176) rfl stp) ?_
          refine own_sti X1112 hx hZ e1112 Al1109_1114 1 (hb hby at_177) (rfl) (Nat.le_of_ble_eq_true rfl) rfl rfl (g' := (mkF m 178 La1115 [])) rfl ?_
          intro T1117 h1117 X1117 e1117 W1117 B1117
          have Zn1118 := Nat.le_trans Zn1113 (Nat.le_of_eq W1117.size.symm)
          have Al1112_1119 := own_Al_oth W1117 Al1112 (Ne.symm ne1103_ad1099_ad1103)
          have N1117 := Fr.snoc X1117 N1112 g_ad1099
          have Al1117 : own_Al Z h1117 ad1099 .int [(.int (0 : Int32)), (.int (1 : Int32)), (.int (0 : Int32))] := B1117
          refine own_up (S' := T1117.setTop (mkF m 180 La1115 [(.ref ad1103)])) (fun t stp => XS.aload X1117.here hx rfl (hb hby at_178) (by rw [hLa1115]; rfl) rfl stp) ?_
          refine own_up (S' := T1117.setTop (mkF m 182 La1115 [(.int (1 : Int32)), (.ref ad1103)])) (fun t stp => XS.iload X1117.here hx rfl (hb hby at_180) (by rw [hLa1115]; rfl) stp) ?_
          refine own_up (S' := T1117.setTop (mkF m 184 La1115 [(.long u1), (.int (1 : Int32)), (.ref ad1103)])) (fun t stp => XT.lload X1117.here hx rfl (hb hby at_182) (by rw [hLa1115]; rfl) stp) ?_
          refine own_stj X1117 hx hZ e1117 Al1112_1119 1 (hb hby at_184) (rfl) (Nat.le_of_ble_eq_true rfl) rfl rfl (g' := (mkF m 185 La1115 [])) rfl ?_
          intro T1120 h1120 X1120 e1120 W1120 B1120
          have Zn1121 := Nat.le_trans Zn1118 (Nat.le_of_eq W1120.size.symm)
          have Al1117_1122 := own_Al_oth W1120 Al1117 ne1103_ad1099_ad1103
          have N1120 := Fr.snoc X1120 N1117 g_ad1103
          have Al1120 : own_Al Z h1120 ad1103 .long [(.long u0), (.long u1), (.long (0 : Int64))] := B1120
          obtain ⟨La1123, hLa1123⟩ : ∃ L : Array Slot, L = #[.val (.long l0), .second, .val (.long l1), .second, .val (.long l2), .second, .val (.long u0), .second, .val (.long u1), .second, .val (.int sel), .val (.int mm), .val (.int (1 : Int32)), .val (.int (1 : Int32)), .val (.int (1 : Int32)), .val (.int (0 : Int32)), .val (.long u0), .second, .val (.long u1), .second, .val (.long v2), .second, .val (.long v3), .second, .val (.int (3 : Int32)), .val (.ref ad1099), .val (.ref ad1103), .val (.int (2 : Int32)), .unset, .unset, .unset, .unset, .unset, .unset, .unset, .unset, .unset, .unset, .unset, .unset] := ⟨_, rfl⟩
          refine own_up (S' := T1120.setTop (mkF m 188 La1123 [])) (fun t stp => XT.iincV X1120.here hx rfl (1 : Int32) (hb hby at_185) rfl (by rw [hLa1115]; rfl) (l' := La1123) (by rw [hLa1115, hLa1123]; rfl) stp) ?_
          refine own_up (S' := T1120.setTop (mkF m 190 La1123 [(.int (1 : Int32))])) (fun t stp => XS.iload X1120.here hx rfl (hb hby at_188) (by rw [hLa1123]; rfl) stp) ?_
          have hc190_1124 : ¬ ((1 : Int32) = 0) := hc88_1094
          refine own_up (S' := T1120.setTop (mkF m 193 La1123 [])) (fun t stp => XS.ifNo X1120.here hx rfl (hb hby at_190) rfl (XT.i0_eq_f hc190_1124) stp) ?_
          refine own_up (S' := T1120.setTop (mkF m 195 La1123 [(.ref ad1099)])) (fun t stp => XS.aload X1120.here hx rfl (hb hby at_193) (by rw [hLa1123]; rfl) rfl stp) ?_
          refine own_up (S' := T1120.setTop (mkF m 197 La1123 [(.int (2 : Int32)), (.ref ad1099)])) (fun t stp => XS.iload X1120.here hx rfl (hb hby at_195) (by rw [hLa1123]; rfl) stp) ?_
          refine own_up (S' := T1120.setTop (mkF m 198 La1123 [(.int (2 : Int32)), (.int (2 : Int32)), (.ref ad1099)])) (fun t stp => XT.iconstV X1120.here hx rfl (2 : Int32) (hb hby at_197) rfl stp) ?_
          refine own_sti X1120 hx hZ e1120 Al1117_1122 2 (hb hby at_198) (rfl) (Nat.le_of_ble_eq_true rfl) rfl rfl (g' := (mkF m 199 La1123 [])) rfl ?_
          intro T1125 h1125 X1125 e1125 W1125 B1125
          have Zn1126 := Nat.le_trans Zn1121 (Nat.le_of_eq W1125.size.symm)
          have Al1120_1127 := own_Al_oth W1125 Al1120 (Ne.symm ne1103_ad1099_ad1103)
          have N1125 := Fr.snoc X1125 N1120 g_ad1099
          have Al1125 : own_Al Z h1125 ad1099 .int [(.int (0 : Int32)), (.int (1 : Int32)), (.int (2 : Int32))] := B1125
          refine own_up (S' := T1125.setTop (mkF m 201 La1123 [(.ref ad1103)])) (fun t stp => XS.aload X1125.here hx rfl (hb hby at_199) (by rw [hLa1123]; rfl) rfl stp) ?_
          refine own_up (S' := T1125.setTop (mkF m 203 La1123 [(.int (2 : Int32)), (.ref ad1103)])) (fun t stp => XS.iload X1125.here hx rfl (hb hby at_201) (by rw [hLa1123]; rfl) stp) ?_
          refine own_up (S' := T1125.setTop (mkF m 205 La1123 [(.long v2), (.int (2 : Int32)), (.ref ad1103)])) (fun t stp => XT.lload X1125.here hx rfl (hb hby at_203) (by rw [hLa1123]; rfl) stp) ?_
          refine own_stj X1125 hx hZ e1125 Al1120_1127 2 (hb hby at_205) (rfl) (Nat.le_of_ble_eq_true rfl) rfl rfl (g' := (mkF m 206 La1123 [])) rfl ?_
          intro T1128 h1128 X1128 e1128 W1128 B1128
          have Zn1129 := Nat.le_trans Zn1126 (Nat.le_of_eq W1128.size.symm)
          have Al1125_1130 := own_Al_oth W1128 Al1125 ne1103_ad1099_ad1103
          have N1128 := Fr.snoc X1128 N1125 g_ad1103
          have Al1128 : own_Al Z h1128 ad1103 .long [(.long u0), (.long u1), (.long v2)] := B1128
          obtain ⟨La1131, hLa1131⟩ : ∃ L : Array Slot, L = #[.val (.long l0), .second, .val (.long l1), .second, .val (.long l2), .second, .val (.long u0), .second, .val (.long u1), .second, .val (.int sel), .val (.int mm), .val (.int (1 : Int32)), .val (.int (1 : Int32)), .val (.int (1 : Int32)), .val (.int (0 : Int32)), .val (.long u0), .second, .val (.long u1), .second, .val (.long v2), .second, .val (.long v3), .second, .val (.int (3 : Int32)), .val (.ref ad1099), .val (.ref ad1103), .val (.int (3 : Int32)), .unset, .unset, .unset, .unset, .unset, .unset, .unset, .unset, .unset, .unset, .unset, .unset] := ⟨_, rfl⟩
          refine own_up (S' := T1128.setTop (mkF m 209 La1131 [])) (fun t stp => XT.iincV X1128.here hx rfl (1 : Int32) (hb hby at_206) rfl (by rw [hLa1123]; rfl) (l' := La1131) (by rw [hLa1123, hLa1131]; rfl) stp) ?_
          refine own_up (S' := T1128.setTop (mkF m 211 La1131 [(.int (0 : Int32))])) (fun t stp => XS.iload X1128.here hx rfl (hb hby at_209) (by rw [hLa1131]; rfl) stp) ?_
          have hc211_1132 : (0 : Int32) = 0 := hc120_1097
          refine own_up (S' := T1128.setTop (mkF m 230 La1131 [])) (fun t stp => XS.ifYes X1128.here hx rfl (pc0 := 211) (pc' := 230) rfl (hb hby at_211) rfl (XT.i0_eq_t hc211_1132) (by decide) (by decide) stp) ?_
          refine own_up (S' := T1128.setTop (mkF m 231 La1131 [(.long l0)])) (fun t stp => XT.lloadN X1128.here hx rfl (hb hby at_230) (by rw [hLa1131]; rfl) stp) ?_
          refine own_up (S' := T1128.setTop (mkF m 232 La1131 [(.long l1), (.long l0)])) (fun t stp => XT.lloadN X1128.here hx rfl (hb hby at_231) (by rw [hLa1131]; rfl) stp) ?_
          refine own_up (S' := T1128.setTop (mkF m 233 La1131 [(.long (l0 ^^^ l1))])) (fun t stp => XT.lxor X1128.here hx rfl (hb hby at_232) rfl stp) ?_
          obtain ⟨l3, h_l3⟩ : ∃ z : Int64, z = (l0 ^^^ l1) := ⟨_, rfl⟩
          rw [← h_l3]
          obtain ⟨La1133, hLa1133⟩ : ∃ L : Array Slot, L = #[.val (.long l0), .second, .val (.long l1), .second, .val (.long l2), .second, .val (.long u0), .second, .val (.long u1), .second, .val (.int sel), .val (.int mm), .val (.int (1 : Int32)), .val (.int (1 : Int32)), .val (.int (1 : Int32)), .val (.int (0 : Int32)), .val (.long u0), .second, .val (.long u1), .second, .val (.long v2), .second, .val (.long v3), .second, .val (.int (3 : Int32)), .val (.ref ad1099), .val (.ref ad1103), .val (.int (3 : Int32)), .val (.long l3), .second, .unset, .unset, .unset, .unset, .unset, .unset, .unset, .unset, .unset, .unset] := ⟨_, rfl⟩
          refine own_up (S' := T1128.setTop (mkF m 235 La1133 [])) (fun t stp => XT.lstore X1128.here hx rfl (hb hby at_233) rfl (l' := La1133) (by rw [hLa1131, hLa1133]; rfl) stp) ?_
          refine own_up (S' := T1128.setTop (mkF m 236 La1133 [(.int (4 : Int32))])) (fun t stp => XT.iconstV X1128.here hx rfl (4 : Int32) (hb hby at_235) rfl stp) ?_
          refine own_newa X1128 hx hZ (ty := .long) rfl (hw _ (List.mem_of_getElem? (i := 1) rfl)) e1128 4 (hb hby at_236) (rfl) 4 (by decide) (by decide) (by decide) (by decide) rfl rfl ?_
          intro T1134 h1134 ad1134 hb1134 X1134 e1134 E1134 A1134
          have ne1134_ad1099_ad1134 : ad1099 ≠ ad1134 := Nat.ne_of_lt (Nat.lt_of_lt_of_eq (own_Al_lt Al1125_1130) hb1134.symm)
          have ne1134_ad1103_ad1134 : ad1103 ≠ ad1134 := Nat.ne_of_lt (Nat.lt_of_lt_of_eq (own_Al_lt Al1128) hb1134.symm)
          have g_ad1134 : n0 ≤ ad1134 := Nat.le_trans Zn1129 (Nat.le_of_eq hb1134.symm)
          have Zn1135 := Nat.le_trans Zn1129 E1134.1
          have Al1125_1136 := own_Al_ext E1134 Al1125_1130
          have Al1128_1136 := own_Al_ext E1134 Al1128
          have Al1134 : own_Al Z h1134 ad1134 .long [(.long (0 : Int64)), (.long (0 : Int64)), (.long (0 : Int64)), (.long (0 : Int64))] := A1134
          show own_Ends p e below s (own_Q0 Z l0 l1 l2 u0 u1 sel h0 n0) room_1.cells room_1.slots (T1134.setTop (mkF m 238 La1133 [(.ref ad1134)]))
          refine own_up (S' := T1134.setTop (mkF m 239 La1133 [(.ref ad1134), (.ref ad1134)])) (fun t stp => XS.dup X1134.here hx rfl (hb hby at_238) rfl rfl stp) ?_
          refine own_up (S' := T1134.setTop (mkF m 240 La1133 [(.int (0 : Int32)), (.ref ad1134), (.ref ad1134)])) (fun t stp => XT.iconstV X1134.here hx rfl (0 : Int32) (hb hby at_239) rfl stp) ?_
          refine own_up (S' := T1134.setTop (mkF m 241 La1133 [(.long l0), (.int (0 : Int32)), (.ref ad1134), (.ref ad1134)])) (fun t stp => XT.lloadN X1134.here hx rfl (hb hby at_240) (by rw [hLa1133]; rfl) stp) ?_
          refine own_stj X1134 hx hZ e1134 Al1134 0 (hb hby at_241) (rfl) (Nat.le_of_ble_eq_true rfl) rfl rfl (g' := (mkF m 242 La1133 [(.ref ad1134)])) rfl ?_
          intro T1137 h1137 X1137 e1137 W1137 B1137
          have Zn1138 := Nat.le_trans Zn1135 (Nat.le_of_eq W1137.size.symm)
          have Al1125_1139 := own_Al_oth W1137 Al1125_1136 ne1134_ad1099_ad1134
          have Al1128_1139 := own_Al_oth W1137 Al1128_1136 ne1134_ad1103_ad1134
          have N1137 := Fr.snoc X1137 N1128 g_ad1134
          have Al1137 : own_Al Z h1137 ad1134 .long [(.long l0), (.long (0 : Int64)), (.long (0 : Int64)), (.long (0 : Int64))] := B1137
          refine own_up (S' := T1137.setTop (mkF m 243 La1133 [(.ref ad1134), (.ref ad1134)])) (fun t stp => XS.dup X1137.here hx rfl (hb hby at_242) rfl rfl stp) ?_
          refine own_up (S' := T1137.setTop (mkF m 244 La1133 [(.int (1 : Int32)), (.ref ad1134), (.ref ad1134)])) (fun t stp => XT.iconstV X1137.here hx rfl (1 : Int32) (hb hby at_243) rfl stp) ?_
          refine own_up (S' := T1137.setTop (mkF m 245 La1133 [(.long l1), (.int (1 : Int32)), (.ref ad1134), (.ref ad1134)])) (fun t stp => XT.lloadN X1137.here hx rfl (hb hby at_244) (by rw [hLa1133]; rfl) stp) ?_
          refine own_stj X1137 hx hZ e1137 Al1137 1 (hb hby at_245) (rfl) (Nat.le_of_ble_eq_true rfl) rfl rfl (g' := (mkF m 246 La1133 [(.ref ad1134)])) rfl ?_
          intro T1140 h1140 X1140 e1140 W1140 B1140
          have Zn1141 := Nat.le_trans Zn1138 (Nat.le_of_eq W1140.size.symm)
          have Al1125_1142 := own_Al_oth W1140 Al1125_1139 ne1134_ad1099_ad1134
          have Al1128_1142 := own_Al_oth W1140 Al1128_1139 ne1134_ad1103_ad1134
          have N1140 := Fr.snoc X1140 N1137 g_ad1134
          have Al1140 : own_Al Z h1140 ad1134 .long [(.long l0), (.long l1), (.long (0 : Int64)), (.long (0 : Int64))] := B1140
          refine own_up (S' := T1140.setTop (mkF m 247 La1133 [(.ref ad1134), (.ref ad1134)])) (fun t stp => XS.dup X1140.here hx rfl (hb hby at_246) rfl rfl stp) ?_
          refine own_up (S' := T1140.setTop (mkF m 248 La1133 [(.int (2 : Int32)), (.ref ad1134), (.ref ad1134)])) (fun t stp => XT.iconstV X1140.here hx rfl (2 : Int32) (hb hby at_247) rfl stp) ?_
          refine own_up (S' := T1140.setTop (mkF m 250 La1133 [(.long l2), (.int (2 : Int32)), (.ref ad1134), (.ref ad1134)])) (fun t stp => XT.lload X1140.here hx rfl (hb hby at_248) (by rw [hLa1133]; rfl) stp) ?_
          refine own_stj X1140 hx hZ e1140 Al1140 2 (hb hby at_250) (rfl) (Nat.le_of_ble_eq_true rfl) rfl rfl (g' := (mkF m 251 La1133 [(.ref ad1134)])) rfl ?_
          intro T1143 h1143 X1143 e1143 W1143 B1143
          have Zn1144 := Nat.le_trans Zn1141 (Nat.le_of_eq W1143.size.symm)
          have Al1125_1145 := own_Al_oth W1143 Al1125_1142 ne1134_ad1099_ad1134
          have Al1128_1145 := own_Al_oth W1143 Al1128_1142 ne1134_ad1103_ad1134
          have N1143 := Fr.snoc X1143 N1140 g_ad1134
          have Al1143 : own_Al Z h1143 ad1134 .long [(.long l0), (.long l1), (.long l2), (.long (0 : Int64))] := B1143
          refine own_up (S' := T1143.setTop (mkF m 252 La1133 [(.ref ad1134), (.ref ad1134)])) (fun t stp => XS.dup X1143.here hx rfl (hb hby at_251) rfl rfl stp) ?_
          refine own_up (S' := T1143.setTop (mkF m 253 La1133 [(.int (3 : Int32)), (.ref ad1134), (.ref ad1134)])) (fun t stp => XT.iconstV X1143.here hx rfl (3 : Int32) (hb hby at_252) rfl stp) ?_
          refine own_up (S' := T1143.setTop (mkF m 255 La1133 [(.long l3), (.int (3 : Int32)), (.ref ad1134), (.ref ad1134)])) (fun t stp => XT.lload X1143.here hx rfl (hb hby at_253) (by rw [hLa1133]; rfl) stp) ?_
          refine own_stj X1143 hx hZ e1143 Al1143 3 (hb hby at_255) (rfl) (Nat.le_of_ble_eq_true rfl) rfl rfl (g' := (mkF m 256 La1133 [(.ref ad1134)])) rfl ?_
          intro T1146 h1146 X1146 e1146 W1146 B1146
          have Zn1147 := Nat.le_trans Zn1144 (Nat.le_of_eq W1146.size.symm)
          have Al1125_1148 := own_Al_oth W1146 Al1125_1145 ne1134_ad1099_ad1134
          have Al1128_1148 := own_Al_oth W1146 Al1128_1145 ne1134_ad1103_ad1134
          have N1146 := Fr.snoc X1146 N1143 g_ad1134
          have Al1146 : own_Al Z h1146 ad1134 .long [(.long l0), (.long l1), (.long l2), (.long l3)] := B1146
          obtain ⟨La1149, hLa1149⟩ : ∃ L : Array Slot, L = #[.val (.long l0), .second, .val (.long l1), .second, .val (.long l2), .second, .val (.long u0), .second, .val (.long u1), .second, .val (.int sel), .val (.int mm), .val (.int (1 : Int32)), .val (.int (1 : Int32)), .val (.int (1 : Int32)), .val (.int (0 : Int32)), .val (.long u0), .second, .val (.long u1), .second, .val (.long v2), .second, .val (.long v3), .second, .val (.int (3 : Int32)), .val (.ref ad1099), .val (.ref ad1103), .val (.int (3 : Int32)), .val (.long l3), .second, .val (.ref ad1134), .unset, .unset, .unset, .unset, .unset, .unset, .unset, .unset, .unset] := ⟨_, rfl⟩
          refine own_up (S' := T1146.setTop (mkF m 258 La1149 [])) (fun t stp => XS.astore X1146.here hx rfl (hb hby at_256) rfl rfl (l' := La1149) (by rw [hLa1133, hLa1149]; rfl) stp) ?_
          refine own_new X1146 hx hZ hown (hw _ (List.mem_of_getElem? (i := 2) rfl)) (hw _ (List.mem_of_getElem? (i := 3) rfl)) (hw _ (List.mem_of_getElem? (i := 4) rfl)) e1146 rfl (hb hby at_258) (by decide) (by decide) ?_
          intro T1150 h1150 ob hb1150 X1150 e1150 E1150 A1150 D1150
          have ne1150_ad1099_ob : ad1099 ≠ ob := Nat.ne_of_lt (Nat.lt_of_lt_of_eq (own_Al_lt Al1125_1148) hb1150.symm)
          have ne1150_ad1103_ob : ad1103 ≠ ob := Nat.ne_of_lt (Nat.lt_of_lt_of_eq (own_Al_lt Al1128_1148) hb1150.symm)
          have ne1150_ad1134_ob : ad1134 ≠ ob := Nat.ne_of_lt (Nat.lt_of_lt_of_eq (own_Al_lt Al1146) hb1150.symm)
          have g_ob : n0 ≤ ob := Nat.le_trans Zn1147 (Nat.le_of_eq hb1150.symm)
          have Zn1151 := Nat.le_trans Zn1147 E1150.1
          have Al1125_1152 := own_Al_ext E1150 Al1125_1148
          have Al1128_1152 := own_Al_ext E1150 Al1128_1148
          have Al1146_1152 := own_Al_ext E1150 Al1146
          have Fresources_ob : Fld Z h1150 ob "com/example/outcry/outcry/combinatorial/Bundle" "resources" "[I" .null := D1150 (Or.inr (hw _ (List.mem_of_getElem? (i := 17) rfl))) (ty := (.array .int)) (by decide)
          have Funits_ob : Fld Z h1150 ob "com/example/outcry/outcry/combinatorial/Bundle" "units" "[J" .null := D1150 (Or.inr (hw _ (List.mem_of_getElem? (i := 19) rfl))) (ty := (.array .long)) (by decide)
          show own_Ends p e below s (own_Q0 Z l0 l1 l2 u0 u1 sel h0 n0) room_1.cells room_1.slots (T1150.setTop (mkF m 261 La1149 [(.ref ob)]))
          refine own_up (S' := T1150.setTop (mkF m 262 La1149 [(.ref ob), (.ref ob)])) (fun t stp => XS.dup X1150.here hx rfl (hb hby at_261) rfl rfl stp) ?_
          refine own_up (S' := T1150.setTop (mkF m 264 La1149 [(.ref ad1099), (.ref ob), (.ref ob)])) (fun t stp => XS.aload X1150.here hx rfl (hb hby at_262) (by rw [hLa1149]; rfl) rfl stp) ?_
          refine own_up (S' := T1150.setTop (mkF m 266 La1149 [(.ref ad1103), (.ref ad1099), (.ref ob), (.ref ob)])) (fun t stp => XS.aload X1150.here hx rfl (hb hby at_264) (by rw [hLa1149]; rfl) rfl stp) ?_
          refine own_callI X1150 hx hZ rfl hown (hw _ (List.mem_of_getElem? (i := 5) rfl)) (hw _ (List.mem_of_getElem? (i := 6) rfl)) (hw _ (List.mem_of_getElem? (i := 4) rfl)) (hw _ (List.mem_of_getElem? (i := 7) rfl)) (by decide) e1150 (rm2 l Z a0 hw [] ob ad1099 ad1103 h1150 n0 Zn1151 Fresources_ob Funits_ob A1150 g_ob) 1 ob [(.ref ad1099), (.ref ad1103)] [(.ref ob)] (hb hby at_266) (lenOf own_pd1 rfl) (by decide) (by decide) (by decide) (by decide) rfl (by rw [hml, hLa1149]; rfl) rfl (by show 2 * 0 + _ ≤ _; exact Nat.le_of_eq rfl) rfl ?_
          intro T1153 L1153 r1153 X1153 q1153
          obtain ⟨rfl, M1153, K1153, G1153a_1153, G1153b_1153⟩ := q1153
          have N1153 := Fr.app N1146 M1153
          have Zn1154 := Nat.le_trans Zn1151 K1153.1
          have Al1125_1155 := own_Al_keep K1153 Al1125_1152 (ninS ne1150_ad1099_ob nin0)
          have Al1128_1155 := own_Al_keep K1153 Al1128_1152 (ninS ne1150_ad1103_ob nin0)
          have Al1146_1155 := own_Al_keep K1153 Al1146_1152 (ninS ne1150_ad1134_ob nin0)
          have A1150_1155 := A1150.keep K1153
          show own_Ends p e below s (own_Q0 Z l0 l1 l2 u0 u1 sel h0 n0) room_1.cells room_1.slots (T1153.setTop (mkF m 269 La1149 [(.ref ob)]))
          obtain ⟨La1156, hLa1156⟩ : ∃ L : Array Slot, L = #[.val (.long l0), .second, .val (.long l1), .second, .val (.long l2), .second, .val (.long u0), .second, .val (.long u1), .second, .val (.int sel), .val (.int mm), .val (.int (1 : Int32)), .val (.int (1 : Int32)), .val (.int (1 : Int32)), .val (.int (0 : Int32)), .val (.long u0), .second, .val (.long u1), .second, .val (.long v2), .second, .val (.long v3), .second, .val (.int (3 : Int32)), .val (.ref ad1099), .val (.ref ad1103), .val (.int (3 : Int32)), .val (.long l3), .second, .val (.ref ad1134), .val (.ref ob), .unset, .unset, .unset, .unset, .unset, .unset, .unset, .unset] := ⟨_, rfl⟩
          refine own_up (S' := T1153.setTop (mkF m 271 La1156 [])) (fun t stp => XS.astore X1153.here hx rfl (hb hby at_269) rfl rfl (l' := La1156) (by rw [hLa1149, hLa1156]; rfl) stp) ?_
          refine own_up (S' := T1153.setTop (mkF m 273 La1156 [(.ref ob)])) (fun t stp => XS.aload X1153.here hx rfl (hb hby at_271) (by rw [hLa1156]; rfl) rfl stp) ?_
          refine own_up (S' := T1153.setTop (mkF m 275 La1156 [(.ref ad1134), (.ref ob)])) (fun t stp => XS.aload X1153.here hx rfl (hb hby at_273) (by rw [hLa1156]; rfl) rfl stp) ?_
          refine own_callV X1153 hx hZ hown (hw _ (List.mem_of_getElem? (i := 20) rfl)) (hw _ (List.mem_of_getElem? (i := 21) rfl)) (hw _ (List.mem_of_getElem? (i := 23) rfl)) (hw _ (List.mem_of_getElem? (i := 22) rfl)) (hw _ (List.mem_of_getElem? (i := 4) rfl)) (hw _ (List.mem_of_getElem? (i := 24) rfl)) (by decide) rfl (rm13 l Z a0 hw [] ob ad1134 ad1099 ad1103 [(.long l0), (.long l1), (.long l2), (.long l3)] (0 : Int32) u0 (0) l0 (1 : Int32) u1 (1) l1 (2 : Int32) v2 (2) l2 T1153.heap n0 Zn1154 G1153a_1153 G1153b_1153 Al1125_1155 Al1128_1155 Al1146_1155 g_ad1134 ne1134_ad1099_ad1134 ne1134_ad1103_ad1134 (Ne.symm ne1150_ad1134_ob) (rfl) (rfl) (rfl) (rfl) (rfl) (rfl)) 0 A1150_1155 [(.ref ad1134)] [] (hb hby at_275) (lenOf own_pd2 rfl) (by decide) (by decide) (by decide) (by decide) rfl (by rw [hml, hLa1156]; rfl) rfl (by show 2 * 0 + _ ≤ _; exact Nat.le_of_eq rfl) rfl ?_
          intro T1157 L1157 r1157 X1157 q1157
          obtain ⟨rfl, M1157, K1157, G1157a_1157⟩ := q1157
          have N1157 := Fr.app N1153 M1157
          have Zn1158 := Nat.le_trans Zn1154 K1157.1
          have Al1125_1159 := own_Al_keep K1157 Al1125_1155 (ninS ne1134_ad1099_ad1134 nin0)
          have Al1128_1159 := own_Al_keep K1157 Al1128_1155 (ninS ne1134_ad1103_ad1134 nin0)
          have A1150_1159 := A1150_1155.keep K1157
          have G1153a_1159 := G1153a_1153.keep K1157 (ninS (Ne.symm ne1150_ad1134_ob) nin0)
          have G1153b_1159 := G1153b_1153.keep K1157 (ninS (Ne.symm ne1150_ad1134_ob) nin0)
          show own_Ends p e below s (own_Q0 Z l0 l1 l2 u0 u1 sel h0 n0) room_1.cells room_1.slots (T1157.setTop (mkF m 278 La1156 []))
          have Tk1157 : own_Al Z T1157.heap ad1134 .long [(.long (l0 - u0)), (.long (l1 - u1)), (.long (l2 - v2)), (.long l3)] := G1157a_1157
          refine own_up (S' := T1157.setTop (mkF m 280 La1156 [(.int (1 : Int32))])) (fun t stp => XS.iload X1157.here hx rfl (hb hby at_278) (by rw [hLa1156]; rfl) stp) ?_
          have hc280_1160 : ¬ ((1 : Int32) = 0) := hc88_1094
          refine own_up (S' := T1157.setTop (mkF m 283 La1156 [])) (fun t stp => XS.ifNo X1157.here hx rfl (hb hby at_280) rfl (XT.i0_eq_f hc280_1160) stp) ?_
          refine own_up (S' := T1157.setTop (mkF m 284 La1156 [(.long l0)])) (fun t stp => XT.lloadN X1157.here hx rfl (hb hby at_283) (by rw [hLa1156]; rfl) stp) ?_
          refine own_up (S' := T1157.setTop (mkF m 286 La1156 [(.long u0), (.long l0)])) (fun t stp => XT.lload X1157.here hx rfl (hb hby at_284) (by rw [hLa1156]; rfl) stp) ?_
          refine own_up (S' := T1157.setTop (mkF m 287 La1156 [(.long (l0 - u0))])) (fun t stp => XT.lsub X1157.here hx rfl (hb hby at_286) rfl stp) ?_
          refine own_up (S' := T1157.setTop (mkF m 291 La1156 [(.long (l0 - u0))])) (fun t stp => XS.goto X1157.here hx rfl (pc0 := 287) (pc' := 291) rfl (hb hby at_287) (by decide) (by decide) stp) ?_
          obtain ⟨e0q, h_e0q⟩ : ∃ z : Int64, z = (l0 - u0) := ⟨_, rfl⟩
          rw [← h_e0q]
          obtain ⟨La1161, hLa1161⟩ : ∃ L : Array Slot, L = #[.val (.long l0), .second, .val (.long l1), .second, .val (.long l2), .second, .val (.long u0), .second, .val (.long u1), .second, .val (.int sel), .val (.int mm), .val (.int (1 : Int32)), .val (.int (1 : Int32)), .val (.int (1 : Int32)), .val (.int (0 : Int32)), .val (.long u0), .second, .val (.long u1), .second, .val (.long v2), .second, .val (.long v3), .second, .val (.int (3 : Int32)), .val (.ref ad1099), .val (.ref ad1103), .val (.int (3 : Int32)), .val (.long l3), .second, .val (.ref ad1134), .val (.ref ob), .val (.long e0q), .second, .unset, .unset, .unset, .unset, .unset, .unset] := ⟨_, rfl⟩
          refine own_up (S' := T1157.setTop (mkF m 293 La1161 [])) (fun t stp => XT.lstore X1157.here hx rfl (hb hby at_291) rfl (l' := La1161) (by rw [hLa1156, hLa1161]; rfl) stp) ?_
          refine own_up (S' := T1157.setTop (mkF m 295 La1161 [(.int (1 : Int32))])) (fun t stp => XS.iload X1157.here hx rfl (hb hby at_293) (by rw [hLa1161]; rfl) stp) ?_
          have hc295_1162 : ¬ ((1 : Int32) = 0) := hc88_1094
          refine own_up (S' := T1157.setTop (mkF m 298 La1161 [])) (fun t stp => XS.ifNo X1157.here hx rfl (hb hby at_295) rfl (XT.i0_eq_f hc295_1162) stp) ?_
          refine own_up (S' := T1157.setTop (mkF m 299 La1161 [(.long l1)])) (fun t stp => XT.lloadN X1157.here hx rfl (hb hby at_298) (by rw [hLa1161]; rfl) stp) ?_
          refine own_up (S' := T1157.setTop (mkF m 301 La1161 [(.long u1), (.long l1)])) (fun t stp => XT.lload X1157.here hx rfl (hb hby at_299) (by rw [hLa1161]; rfl) stp) ?_
          refine own_up (S' := T1157.setTop (mkF m 302 La1161 [(.long (l1 - u1))])) (fun t stp => XT.lsub X1157.here hx rfl (hb hby at_301) rfl stp) ?_
          refine own_up (S' := T1157.setTop (mkF m 306 La1161 [(.long (l1 - u1))])) (fun t stp => XS.goto X1157.here hx rfl (pc0 := 302) (pc' := 306) rfl (hb hby at_302) (by decide) (by decide) stp) ?_
          obtain ⟨e1q, h_e1q⟩ : ∃ z : Int64, z = (l1 - u1) := ⟨_, rfl⟩
          rw [← h_e1q]
          obtain ⟨La1163, hLa1163⟩ : ∃ L : Array Slot, L = #[.val (.long l0), .second, .val (.long l1), .second, .val (.long l2), .second, .val (.long u0), .second, .val (.long u1), .second, .val (.int sel), .val (.int mm), .val (.int (1 : Int32)), .val (.int (1 : Int32)), .val (.int (1 : Int32)), .val (.int (0 : Int32)), .val (.long u0), .second, .val (.long u1), .second, .val (.long v2), .second, .val (.long v3), .second, .val (.int (3 : Int32)), .val (.ref ad1099), .val (.ref ad1103), .val (.int (3 : Int32)), .val (.long l3), .second, .val (.ref ad1134), .val (.ref ob), .val (.long e0q), .second, .val (.long e1q), .second, .unset, .unset, .unset, .unset] := ⟨_, rfl⟩
          refine own_up (S' := T1157.setTop (mkF m 308 La1163 [])) (fun t stp => XT.lstore X1157.here hx rfl (hb hby at_306) rfl (l' := La1163) (by rw [hLa1161, hLa1163]; rfl) stp) ?_
          refine own_up (S' := T1157.setTop (mkF m 310 La1163 [(.int (1 : Int32))])) (fun t stp => XS.iload X1157.here hx rfl (hb hby at_308) (by rw [hLa1163]; rfl) stp) ?_
          have hc310_1164 : ¬ ((1 : Int32) = 0) := hc88_1094
          refine own_up (S' := T1157.setTop (mkF m 313 La1163 [])) (fun t stp => XS.ifNo X1157.here hx rfl (hb hby at_310) rfl (XT.i0_eq_f hc310_1164) stp) ?_
          refine own_up (S' := T1157.setTop (mkF m 315 La1163 [(.long l2)])) (fun t stp => XT.lload X1157.here hx rfl (hb hby at_313) (by rw [hLa1163]; rfl) stp) ?_
          refine own_up (S' := T1157.setTop (mkF m 317 La1163 [(.long v2), (.long l2)])) (fun t stp => XT.lload X1157.here hx rfl (hb hby at_315) (by rw [hLa1163]; rfl) stp) ?_
          refine own_up (S' := T1157.setTop (mkF m 318 La1163 [(.long (l2 - v2))])) (fun t stp => XT.lsub X1157.here hx rfl (hb hby at_317) rfl stp) ?_
          refine own_up (S' := T1157.setTop (mkF m 323 La1163 [(.long (l2 - v2))])) (fun t stp => XS.goto X1157.here hx rfl (pc0 := 318) (pc' := 323) rfl (hb hby at_318) (by decide) (by decide) stp) ?_
          obtain ⟨e2q, h_e2q⟩ : ∃ z : Int64, z = (l2 - v2) := ⟨_, rfl⟩
          rw [← h_e2q]
          obtain ⟨La1165, hLa1165⟩ : ∃ L : Array Slot, L = #[.val (.long l0), .second, .val (.long l1), .second, .val (.long l2), .second, .val (.long u0), .second, .val (.long u1), .second, .val (.int sel), .val (.int mm), .val (.int (1 : Int32)), .val (.int (1 : Int32)), .val (.int (1 : Int32)), .val (.int (0 : Int32)), .val (.long u0), .second, .val (.long u1), .second, .val (.long v2), .second, .val (.long v3), .second, .val (.int (3 : Int32)), .val (.ref ad1099), .val (.ref ad1103), .val (.int (3 : Int32)), .val (.long l3), .second, .val (.ref ad1134), .val (.ref ob), .val (.long e0q), .second, .val (.long e1q), .second, .val (.long e2q), .second, .unset, .unset] := ⟨_, rfl⟩
          refine own_up (S' := T1157.setTop (mkF m 325 La1165 [])) (fun t stp => XT.lstore X1157.here hx rfl (hb hby at_323) rfl (l' := La1165) (by rw [hLa1163, hLa1165]; rfl) stp) ?_
          refine own_up (S' := T1157.setTop (mkF m 327 La1165 [(.int (0 : Int32))])) (fun t stp => XS.iload X1157.here hx rfl (hb hby at_325) (by rw [hLa1165]; rfl) stp) ?_
          have hc327_1166 : (0 : Int32) = 0 := hc120_1097
          refine own_up (S' := T1157.setTop (mkF m 338 La1165 [])) (fun t stp => XS.ifYes X1157.here hx rfl (pc0 := 327) (pc' := 338) rfl (hb hby at_327) rfl (XT.i0_eq_t hc327_1166) (by decide) (by decide) stp) ?_
          refine own_up (S' := T1157.setTop (mkF m 340 La1165 [(.long l3)])) (fun t stp => XT.lload X1157.here hx rfl (hb hby at_338) (by rw [hLa1165]; rfl) stp) ?_
          obtain ⟨La1167, hLa1167⟩ : ∃ L : Array Slot, L = #[.val (.long l0), .second, .val (.long l1), .second, .val (.long l2), .second, .val (.long u0), .second, .val (.long u1), .second, .val (.int sel), .val (.int mm), .val (.int (1 : Int32)), .val (.int (1 : Int32)), .val (.int (1 : Int32)), .val (.int (0 : Int32)), .val (.long u0), .second, .val (.long u1), .second, .val (.long v2), .second, .val (.long v3), .second, .val (.int (3 : Int32)), .val (.ref ad1099), .val (.ref ad1103), .val (.int (3 : Int32)), .val (.long l3), .second, .val (.ref ad1134), .val (.ref ob), .val (.long e0q), .second, .val (.long e1q), .second, .val (.long e2q), .second, .val (.long l3), .second] := ⟨_, rfl⟩
          refine own_up (S' := T1157.setTop (mkF m 342 La1167 [])) (fun t stp => XT.lstore X1157.here hx rfl (hb hby at_340) rfl (l' := La1167) (by rw [hLa1165, hLa1167]; rfl) stp) ?_
          refine own_up (S' := T1157.setTop (mkF m 344 La1167 [(.ref ad1134)])) (fun t stp => XS.aload X1157.here hx rfl (hb hby at_342) (by rw [hLa1167]; rfl) rfl stp) ?_
          refine own_len X1157 hx hZ rfl Tk1157 (4 : Int32) (hb hby at_344) (rfl) rfl rfl (g' := (mkF m 345 La1167 [(.int (4 : Int32))])) rfl ?_
          refine own_up (S' := T1157.setTop (mkF m 346 La1167 [(.int (4 : Int32)), (.int (4 : Int32))])) (fun t stp => XT.iconstV X1157.here hx rfl (4 : Int32) (hb hby at_345) rfl stp) ?_
          have hc346_1168 : (4 : Int32) = (4 : Int32) := rfl
          refine own_up (S' := T1157.setTop (mkF m 349 La1167 [])) (fun t stp => XS.icmpNo X1157.here hx rfl (hb hby at_346) rfl (XT.ii_ne_f hc346_1168) stp) ?_
          refine own_up (S' := T1157.setTop (mkF m 351 La1167 [(.ref ad1134)])) (fun t stp => XS.aload X1157.here hx rfl (hb hby at_349) (by rw [hLa1167]; rfl) rfl stp) ?_
          refine own_up (S' := T1157.setTop (mkF m 352 La1167 [(.int (0 : Int32)), (.ref ad1134)])) (fun t stp => XT.iconstV X1157.here hx rfl (0 : Int32) (hb hby at_351) rfl stp) ?_
          refine own_ldj X1157 hx hZ rfl Tk1157 (v := (.long (l0 - u0))) 0 (hb hby at_352) (rfl) (rfl) rfl rfl (g' := (mkF m 353 La1167 [(.long (l0 - u0))])) rfl ?_
          refine own_up (S' := T1157.setTop (mkF m 355 La1167 [(.long e0q), (.long (l0 - u0))])) (fun t stp => XT.lload X1157.here hx rfl (hb hby at_353) (by rw [hLa1167]; rfl) stp) ?_
          refine own_up (S' := T1157.setTop (mkF m 356 La1167 [(.int (XT.cmpL (l0 - u0) e0q))])) (fun t stp => XT.lcmp X1157.here hx rfl (hb hby at_355) rfl stp) ?_
          have hc356_1169 : (l0 - u0) = e0q := h_e0q.symm
          have ihc356_1169 : (l0 - u0).toInt = e0q.toInt := own_leq hc356_1169
          refine own_up (S' := T1157.setTop (mkF m 359 La1167 [])) (fun t stp => XS.ifNo X1157.here hx rfl (hb hby at_356) rfl (XT.ll_ne_f hc356_1169) stp) ?_
          refine own_up (S' := T1157.setTop (mkF m 361 La1167 [(.ref ad1134)])) (fun t stp => XS.aload X1157.here hx rfl (hb hby at_359) (by rw [hLa1167]; rfl) rfl stp) ?_
          refine own_up (S' := T1157.setTop (mkF m 362 La1167 [(.int (1 : Int32)), (.ref ad1134)])) (fun t stp => XT.iconstV X1157.here hx rfl (1 : Int32) (hb hby at_361) rfl stp) ?_
          refine own_ldj X1157 hx hZ rfl Tk1157 (v := (.long (l1 - u1))) 1 (hb hby at_362) (rfl) (rfl) rfl rfl (g' := (mkF m 363 La1167 [(.long (l1 - u1))])) rfl ?_
          refine own_up (S' := T1157.setTop (mkF m 365 La1167 [(.long e1q), (.long (l1 - u1))])) (fun t stp => XT.lload X1157.here hx rfl (hb hby at_363) (by rw [hLa1167]; rfl) stp) ?_
          refine own_up (S' := T1157.setTop (mkF m 366 La1167 [(.int (XT.cmpL (l1 - u1) e1q))])) (fun t stp => XT.lcmp X1157.here hx rfl (hb hby at_365) rfl stp) ?_
          have hc366_1170 : (l1 - u1) = e1q := h_e1q.symm
          have ihc366_1170 : (l1 - u1).toInt = e1q.toInt := own_leq hc366_1170
          refine own_up (S' := T1157.setTop (mkF m 369 La1167 [])) (fun t stp => XS.ifNo X1157.here hx rfl (hb hby at_366) rfl (XT.ll_ne_f hc366_1170) stp) ?_
          refine own_up (S' := T1157.setTop (mkF m 371 La1167 [(.ref ad1134)])) (fun t stp => XS.aload X1157.here hx rfl (hb hby at_369) (by rw [hLa1167]; rfl) rfl stp) ?_
          refine own_up (S' := T1157.setTop (mkF m 372 La1167 [(.int (2 : Int32)), (.ref ad1134)])) (fun t stp => XT.iconstV X1157.here hx rfl (2 : Int32) (hb hby at_371) rfl stp) ?_
          refine own_ldj X1157 hx hZ rfl Tk1157 (v := (.long (l2 - v2))) 2 (hb hby at_372) (rfl) (rfl) rfl rfl (g' := (mkF m 373 La1167 [(.long (l2 - v2))])) rfl ?_
          refine own_up (S' := T1157.setTop (mkF m 375 La1167 [(.long e2q), (.long (l2 - v2))])) (fun t stp => XT.lload X1157.here hx rfl (hb hby at_373) (by rw [hLa1167]; rfl) stp) ?_
          refine own_up (S' := T1157.setTop (mkF m 376 La1167 [(.int (XT.cmpL (l2 - v2) e2q))])) (fun t stp => XT.lcmp X1157.here hx rfl (hb hby at_375) rfl stp) ?_
          have hc376_1171 : (l2 - v2) = e2q := h_e2q.symm
          have ihc376_1171 : (l2 - v2).toInt = e2q.toInt := own_leq hc376_1171
          refine own_up (S' := T1157.setTop (mkF m 379 La1167 [])) (fun t stp => XS.ifNo X1157.here hx rfl (hb hby at_376) rfl (XT.ll_ne_f hc376_1171) stp) ?_
          refine own_up (S' := T1157.setTop (mkF m 381 La1167 [(.ref ad1134)])) (fun t stp => XS.aload X1157.here hx rfl (hb hby at_379) (by rw [hLa1167]; rfl) rfl stp) ?_
          refine own_up (S' := T1157.setTop (mkF m 382 La1167 [(.int (3 : Int32)), (.ref ad1134)])) (fun t stp => XT.iconstV X1157.here hx rfl (3 : Int32) (hb hby at_381) rfl stp) ?_
          refine own_ldj X1157 hx hZ rfl Tk1157 (v := (.long l3)) 3 (hb hby at_382) (rfl) (rfl) rfl rfl (g' := (mkF m 383 La1167 [(.long l3)])) rfl ?_
          refine own_up (S' := T1157.setTop (mkF m 385 La1167 [(.long l3), (.long l3)])) (fun t stp => XT.lload X1157.here hx rfl (hb hby at_383) (by rw [hLa1167]; rfl) stp) ?_
          refine own_up (S' := T1157.setTop (mkF m 386 La1167 [(.int (XT.cmpL l3 l3))])) (fun t stp => XT.lcmp X1157.here hx rfl (hb hby at_385) rfl stp) ?_
          have hc386_1172 : l3 = l3 := rfl
          have ihc386_1172 : l3.toInt = l3.toInt := own_leq hc386_1172
          refine own_up (S' := T1157.setTop (mkF m 389 La1167 [])) (fun t stp => XS.ifNo X1157.here hx rfl (hb hby at_386) rfl (XT.ll_ne_f hc386_1172) stp) ?_
          refine own_up (S' := T1157.setTop (mkF m 390 La1167 [(.int (1 : Int32))])) (fun t stp => XT.iconstV X1157.here hx rfl (1 : Int32) (hb hby at_389) rfl stp) ?_
          refine own_up (S' := T1157.setTop (mkF m 394 La1167 [(.int (1 : Int32))])) (fun t stp => XS.goto X1157.here hx rfl (pc0 := 390) (pc' := 394) rfl (hb hby at_390) (by decide) (by decide) stp) ?_
          refine own_retN X1157 hx hlk (t := .boolean) hret (by simp) (z' := (1 : Int32)) rfl (hb hby at_394) (by decide) (by decide) ?_
          show own_Q0 Z l0 l1 l2 u0 u1 sel h0 n0 _ T1157.heap _
          exact ⟨rfl, N1157⟩
        · have ihc54_1088 : (mm &&& (8 : Int32)).toInt ≠ 0 := own_ine hc54_1088
          refine own_up (S' := T0.setTop (mkF m 57 La1087 [])) (fun t stp => XS.ifNo X0.here hx rfl (hb hby at_54) rfl (XT.i0_eq_f hc54_1088) stp) ?_
          refine own_up (S' := T0.setTop (mkF m 58 La1087 [(.int (1 : Int32))])) (fun t stp => XT.iconstV X0.here hx rfl (1 : Int32) (hb hby at_57) rfl stp) ?_
          refine own_up (S' := T0.setTop (mkF m 62 La1087 [(.int (1 : Int32))])) (fun t stp => XS.goto X0.here hx rfl (pc0 := 58) (pc' := 62) rfl (hb hby at_58) (by decide) (by decide) stp) ?_
          obtain ⟨La1173, hLa1173⟩ : ∃ L : Array Slot, L = #[.val (.long l0), .second, .val (.long l1), .second, .val (.long l2), .second, .val (.long u0), .second, .val (.long u1), .second, .val (.int sel), .val (.int mm), .val (.int (1 : Int32)), .val (.int (1 : Int32)), .val (.int (1 : Int32)), .val (.int (1 : Int32)), .unset, .unset, .unset, .unset, .unset, .unset, .unset, .unset, .unset, .unset, .unset, .unset, .unset, .unset, .unset, .unset, .unset, .unset, .unset, .unset, .unset, .unset, .unset, .unset] := ⟨_, rfl⟩
          refine own_up (S' := T0.setTop (mkF m 64 La1173 [])) (fun t stp => XS.istore X0.here hx rfl (hb hby at_62) rfl (l' := La1173) (by rw [hLa1087, hLa1173]; rfl) stp) ?_
          refine own_up (S' := T0.setTop (mkF m 66 La1173 [(.long u0)])) (fun t stp => XT.lload X0.here hx rfl (hb hby at_64) (by rw [hLa1173]; rfl) stp) ?_
          obtain ⟨La1174, hLa1174⟩ : ∃ L : Array Slot, L = #[.val (.long l0), .second, .val (.long l1), .second, .val (.long l2), .second, .val (.long u0), .second, .val (.long u1), .second, .val (.int sel), .val (.int mm), .val (.int (1 : Int32)), .val (.int (1 : Int32)), .val (.int (1 : Int32)), .val (.int (1 : Int32)), .val (.long u0), .second, .unset, .unset, .unset, .unset, .unset, .unset, .unset, .unset, .unset, .unset, .unset, .unset, .unset, .unset, .unset, .unset, .unset, .unset, .unset, .unset, .unset, .unset] := ⟨_, rfl⟩
          refine own_up (S' := T0.setTop (mkF m 68 La1174 [])) (fun t stp => XT.lstore X0.here hx rfl (hb hby at_66) rfl (l' := La1174) (by rw [hLa1173, hLa1174]; rfl) stp) ?_
          refine own_up (S' := T0.setTop (mkF m 70 La1174 [(.long u1)])) (fun t stp => XT.lload X0.here hx rfl (hb hby at_68) (by rw [hLa1174]; rfl) stp) ?_
          obtain ⟨La1175, hLa1175⟩ : ∃ L : Array Slot, L = #[.val (.long l0), .second, .val (.long l1), .second, .val (.long l2), .second, .val (.long u0), .second, .val (.long u1), .second, .val (.int sel), .val (.int mm), .val (.int (1 : Int32)), .val (.int (1 : Int32)), .val (.int (1 : Int32)), .val (.int (1 : Int32)), .val (.long u0), .second, .val (.long u1), .second, .unset, .unset, .unset, .unset, .unset, .unset, .unset, .unset, .unset, .unset, .unset, .unset, .unset, .unset, .unset, .unset, .unset, .unset, .unset, .unset] := ⟨_, rfl⟩
          refine own_up (S' := T0.setTop (mkF m 72 La1175 [])) (fun t stp => XT.lstore X0.here hx rfl (hb hby at_70) rfl (l' := La1175) (by rw [hLa1174, hLa1175]; rfl) stp) ?_
          refine own_up (S' := T0.setTop (mkF m 74 La1175 [(.long u0)])) (fun t stp => XT.lload X0.here hx rfl (hb hby at_72) (by rw [hLa1175]; rfl) stp) ?_
          refine own_up (S' := T0.setTop (mkF m 76 La1175 [(.long u1), (.long u0)])) (fun t stp => XT.lload X0.here hx rfl (hb hby at_74) (by rw [hLa1175]; rfl) stp) ?_
          refine own_up (S' := T0.setTop (mkF m 77 La1175 [(.long (u0 - u1))])) (fun t stp => XT.lsub X0.here hx rfl (hb hby at_76) rfl stp) ?_
          obtain ⟨v2, h_v2⟩ : ∃ z : Int64, z = (u0 - u1) := ⟨_, rfl⟩
          rw [← h_v2]
          obtain ⟨La1176, hLa1176⟩ : ∃ L : Array Slot, L = #[.val (.long l0), .second, .val (.long l1), .second, .val (.long l2), .second, .val (.long u0), .second, .val (.long u1), .second, .val (.int sel), .val (.int mm), .val (.int (1 : Int32)), .val (.int (1 : Int32)), .val (.int (1 : Int32)), .val (.int (1 : Int32)), .val (.long u0), .second, .val (.long u1), .second, .val (.long v2), .second, .unset, .unset, .unset, .unset, .unset, .unset, .unset, .unset, .unset, .unset, .unset, .unset, .unset, .unset, .unset, .unset, .unset, .unset] := ⟨_, rfl⟩
          refine own_up (S' := T0.setTop (mkF m 79 La1176 [])) (fun t stp => XT.lstore X0.here hx rfl (hb hby at_77) rfl (l' := La1176) (by rw [hLa1175, hLa1176]; rfl) stp) ?_
          refine own_up (S' := T0.setTop (mkF m 81 La1176 [(.long u1)])) (fun t stp => XT.lload X0.here hx rfl (hb hby at_79) (by rw [hLa1176]; rfl) stp) ?_
          refine own_up (S' := T0.setTop (mkF m 83 La1176 [(.long l2), (.long u1)])) (fun t stp => XT.lload X0.here hx rfl (hb hby at_81) (by rw [hLa1176]; rfl) stp) ?_
          refine own_up (S' := T0.setTop (mkF m 84 La1176 [(.long (u1 ^^^ l2))])) (fun t stp => XT.lxor X0.here hx rfl (hb hby at_83) rfl stp) ?_
          obtain ⟨v3, h_v3⟩ : ∃ z : Int64, z = (u1 ^^^ l2) := ⟨_, rfl⟩
          rw [← h_v3]
          obtain ⟨La1177, hLa1177⟩ : ∃ L : Array Slot, L = #[.val (.long l0), .second, .val (.long l1), .second, .val (.long l2), .second, .val (.long u0), .second, .val (.long u1), .second, .val (.int sel), .val (.int mm), .val (.int (1 : Int32)), .val (.int (1 : Int32)), .val (.int (1 : Int32)), .val (.int (1 : Int32)), .val (.long u0), .second, .val (.long u1), .second, .val (.long v2), .second, .val (.long v3), .second, .unset, .unset, .unset, .unset, .unset, .unset, .unset, .unset, .unset, .unset, .unset, .unset, .unset, .unset, .unset, .unset] := ⟨_, rfl⟩
          refine own_up (S' := T0.setTop (mkF m 86 La1177 [])) (fun t stp => XT.lstore X0.here hx rfl (hb hby at_84) rfl (l' := La1177) (by rw [hLa1176, hLa1177]; rfl) stp) ?_
          refine own_up (S' := T0.setTop (mkF m 88 La1177 [(.int (1 : Int32))])) (fun t stp => XS.iload X0.here hx rfl (hb hby at_86) (by rw [hLa1177]; rfl) stp) ?_
          have hc88_1178 : ¬ ((1 : Int32) = 0) := by decide
          refine own_up (S' := T0.setTop (mkF m 91 La1177 [])) (fun t stp => XS.ifNo X0.here hx rfl (hb hby at_88) rfl (XT.i0_eq_f hc88_1178) stp) ?_
          refine own_up (S' := T0.setTop (mkF m 92 La1177 [(.int (1 : Int32))])) (fun t stp => XT.iconstV X0.here hx rfl (1 : Int32) (hb hby at_91) rfl stp) ?_
          refine own_up (S' := T0.setTop (mkF m 96 La1177 [(.int (1 : Int32))])) (fun t stp => XS.goto X0.here hx rfl (pc0 := 92) (pc' := 96) rfl (hb hby at_92) (by decide) (by decide) stp) ?_
          refine own_up (S' := T0.setTop (mkF m 98 La1177 [(.int (1 : Int32)), (.int (1 : Int32))])) (fun t stp => XS.iload X0.here hx rfl (hb hby at_96) (by rw [hLa1177]; rfl) stp) ?_
          have hc98_1179 : ¬ ((1 : Int32) = 0) := hc88_1178
          refine own_up (S' := T0.setTop (mkF m 101 La1177 [(.int (1 : Int32))])) (fun t stp => XS.ifNo X0.here hx rfl (hb hby at_98) rfl (XT.i0_eq_f hc98_1179) stp) ?_
          refine own_up (S' := T0.setTop (mkF m 102 La1177 [(.int (1 : Int32)), (.int (1 : Int32))])) (fun t stp => XT.iconstV X0.here hx rfl (1 : Int32) (hb hby at_101) rfl stp) ?_
          refine own_up (S' := T0.setTop (mkF m 106 La1177 [(.int (1 : Int32)), (.int (1 : Int32))])) (fun t stp => XS.goto X0.here hx rfl (pc0 := 102) (pc' := 106) rfl (hb hby at_102) (by decide) (by decide) stp) ?_
          refine own_up (S' := T0.setTop (mkF m 107 La1177 [(.int ((1 : Int32) + (1 : Int32)))])) (fun t stp => XS.iadd X0.here hx rfl (hb hby at_106) rfl stp) ?_
          refine own_up (S' := T0.setTop (mkF m 109 La1177 [(.int (1 : Int32)), (.int ((1 : Int32) + (1 : Int32)))])) (fun t stp => XS.iload X0.here hx rfl (hb hby at_107) (by rw [hLa1177]; rfl) stp) ?_
          have hc109_1180 : ¬ ((1 : Int32) = 0) := hc88_1178
          refine own_up (S' := T0.setTop (mkF m 112 La1177 [(.int ((1 : Int32) + (1 : Int32)))])) (fun t stp => XS.ifNo X0.here hx rfl (hb hby at_109) rfl (XT.i0_eq_f hc109_1180) stp) ?_
          refine own_up (S' := T0.setTop (mkF m 113 La1177 [(.int (1 : Int32)), (.int ((1 : Int32) + (1 : Int32)))])) (fun t stp => XT.iconstV X0.here hx rfl (1 : Int32) (hb hby at_112) rfl stp) ?_
          refine own_up (S' := T0.setTop (mkF m 117 La1177 [(.int (1 : Int32)), (.int ((1 : Int32) + (1 : Int32)))])) (fun t stp => XS.goto X0.here hx rfl (pc0 := 113) (pc' := 117) rfl (hb hby at_113) (by decide) (by decide) stp) ?_
          refine own_up (S' := T0.setTop (mkF m 118 La1177 [(.int (((1 : Int32) + (1 : Int32)) + (1 : Int32)))])) (fun t stp => XS.iadd X0.here hx rfl (hb hby at_117) rfl stp) ?_
          refine own_up (S' := T0.setTop (mkF m 120 La1177 [(.int (1 : Int32)), (.int (((1 : Int32) + (1 : Int32)) + (1 : Int32)))])) (fun t stp => XS.iload X0.here hx rfl (hb hby at_118) (by rw [hLa1177]; rfl) stp) ?_
          have hc120_1181 : ¬ ((1 : Int32) = 0) := hc88_1178
          refine own_up (S' := T0.setTop (mkF m 123 La1177 [(.int (((1 : Int32) + (1 : Int32)) + (1 : Int32)))])) (fun t stp => XS.ifNo X0.here hx rfl (hb hby at_120) rfl (XT.i0_eq_f hc120_1181) stp) ?_
          refine own_up (S' := T0.setTop (mkF m 124 La1177 [(.int (1 : Int32)), (.int (((1 : Int32) + (1 : Int32)) + (1 : Int32)))])) (fun t stp => XT.iconstV X0.here hx rfl (1 : Int32) (hb hby at_123) rfl stp) ?_
          refine own_up (S' := T0.setTop (mkF m 128 La1177 [(.int (1 : Int32)), (.int (((1 : Int32) + (1 : Int32)) + (1 : Int32)))])) (fun t stp => XS.goto X0.here hx rfl (pc0 := 124) (pc' := 128) rfl (hb hby at_124) (by decide) (by decide) stp) ?_
          refine own_up (S' := T0.setTop (mkF m 129 La1177 [(.int ((((1 : Int32) + (1 : Int32)) + (1 : Int32)) + (1 : Int32)))])) (fun t stp => XS.iadd X0.here hx rfl (hb hby at_128) rfl stp) ?_
          show own_Ends p e below s (own_Q0 Z l0 l1 l2 u0 u1 sel h0 n0) room_1.cells room_1.slots (T0.setTop (mkF m 129 La1177 [(.int (4 : Int32))]))
          obtain ⟨La1182, hLa1182⟩ : ∃ L : Array Slot, L = #[.val (.long l0), .second, .val (.long l1), .second, .val (.long l2), .second, .val (.long u0), .second, .val (.long u1), .second, .val (.int sel), .val (.int mm), .val (.int (1 : Int32)), .val (.int (1 : Int32)), .val (.int (1 : Int32)), .val (.int (1 : Int32)), .val (.long u0), .second, .val (.long u1), .second, .val (.long v2), .second, .val (.long v3), .second, .val (.int (4 : Int32)), .unset, .unset, .unset, .unset, .unset, .unset, .unset, .unset, .unset, .unset, .unset, .unset, .unset, .unset, .unset] := ⟨_, rfl⟩
          refine own_up (S' := T0.setTop (mkF m 131 La1182 [])) (fun t stp => XS.istore X0.here hx rfl (hb hby at_129) rfl (l' := La1182) (by rw [hLa1177, hLa1182]; rfl) stp) ?_
          refine own_up (S' := T0.setTop (mkF m 133 La1182 [(.int (4 : Int32))])) (fun t stp => XS.iload X0.here hx rfl (hb hby at_131) (by rw [hLa1182]; rfl) stp) ?_
          refine own_newa X0 hx hZ (ty := .int) rfl (hw _ (List.mem_of_getElem? (i := 0) rfl)) e0 4 (hb hby at_133) (rfl) 4 (by decide) (by decide) (by decide) (by decide) rfl rfl ?_
          intro T1183 h1183 ad1183 hb1183 X1183 e1183 E1183 A1183
          have g_ad1183 : n0 ≤ ad1183 := Nat.le_trans Z0 (Nat.le_of_eq hb1183.symm)
          have Zn1184 := Nat.le_trans Z0 E1183.1
          have Al1183 : own_Al Z h1183 ad1183 .int [(.int (0 : Int32)), (.int (0 : Int32)), (.int (0 : Int32)), (.int (0 : Int32))] := A1183
          show own_Ends p e below s (own_Q0 Z l0 l1 l2 u0 u1 sel h0 n0) room_1.cells room_1.slots (T1183.setTop (mkF m 135 La1182 [(.ref ad1183)]))
          obtain ⟨La1186, hLa1186⟩ : ∃ L : Array Slot, L = #[.val (.long l0), .second, .val (.long l1), .second, .val (.long l2), .second, .val (.long u0), .second, .val (.long u1), .second, .val (.int sel), .val (.int mm), .val (.int (1 : Int32)), .val (.int (1 : Int32)), .val (.int (1 : Int32)), .val (.int (1 : Int32)), .val (.long u0), .second, .val (.long u1), .second, .val (.long v2), .second, .val (.long v3), .second, .val (.int (4 : Int32)), .val (.ref ad1183), .unset, .unset, .unset, .unset, .unset, .unset, .unset, .unset, .unset, .unset, .unset, .unset, .unset, .unset] := ⟨_, rfl⟩
          refine own_up (S' := T1183.setTop (mkF m 137 La1186 [])) (fun t stp => XS.astore X1183.here hx rfl (hb hby at_135) rfl rfl (l' := La1186) (by rw [hLa1182, hLa1186]; rfl) stp) ?_
          refine own_up (S' := T1183.setTop (mkF m 139 La1186 [(.int (4 : Int32))])) (fun t stp => XS.iload X1183.here hx rfl (hb hby at_137) (by rw [hLa1186]; rfl) stp) ?_
          refine own_newa X1183 hx hZ (ty := .long) rfl (hw _ (List.mem_of_getElem? (i := 1) rfl)) e1183 4 (hb hby at_139) (rfl) 4 (by decide) (by decide) (by decide) (by decide) rfl rfl ?_
          intro T1187 h1187 ad1187 hb1187 X1187 e1187 E1187 A1187
          have ne1187_ad1183_ad1187 : ad1183 ≠ ad1187 := Nat.ne_of_lt (Nat.lt_of_lt_of_eq (own_Al_lt Al1183) hb1187.symm)
          have g_ad1187 : n0 ≤ ad1187 := Nat.le_trans Zn1184 (Nat.le_of_eq hb1187.symm)
          have Zn1188 := Nat.le_trans Zn1184 E1187.1
          have Al1183_1189 := own_Al_ext E1187 Al1183
          have Al1187 : own_Al Z h1187 ad1187 .long [(.long (0 : Int64)), (.long (0 : Int64)), (.long (0 : Int64)), (.long (0 : Int64))] := A1187
          show own_Ends p e below s (own_Q0 Z l0 l1 l2 u0 u1 sel h0 n0) room_1.cells room_1.slots (T1187.setTop (mkF m 141 La1186 [(.ref ad1187)]))
          obtain ⟨La1190, hLa1190⟩ : ∃ L : Array Slot, L = #[.val (.long l0), .second, .val (.long l1), .second, .val (.long l2), .second, .val (.long u0), .second, .val (.long u1), .second, .val (.int sel), .val (.int mm), .val (.int (1 : Int32)), .val (.int (1 : Int32)), .val (.int (1 : Int32)), .val (.int (1 : Int32)), .val (.long u0), .second, .val (.long u1), .second, .val (.long v2), .second, .val (.long v3), .second, .val (.int (4 : Int32)), .val (.ref ad1183), .val (.ref ad1187), .unset, .unset, .unset, .unset, .unset, .unset, .unset, .unset, .unset, .unset, .unset, .unset, .unset] := ⟨_, rfl⟩
          refine own_up (S' := T1187.setTop (mkF m 143 La1190 [])) (fun t stp => XS.astore X1187.here hx rfl (hb hby at_141) rfl rfl (l' := La1190) (by rw [hLa1186, hLa1190]; rfl) stp) ?_
          refine own_up (S' := T1187.setTop (mkF m 144 La1190 [(.int (0 : Int32))])) (fun t stp => XT.iconstV X1187.here hx rfl (0 : Int32) (hb hby at_143) rfl stp) ?_
          obtain ⟨La1191, hLa1191⟩ : ∃ L : Array Slot, L = #[.val (.long l0), .second, .val (.long l1), .second, .val (.long l2), .second, .val (.long u0), .second, .val (.long u1), .second, .val (.int sel), .val (.int mm), .val (.int (1 : Int32)), .val (.int (1 : Int32)), .val (.int (1 : Int32)), .val (.int (1 : Int32)), .val (.long u0), .second, .val (.long u1), .second, .val (.long v2), .second, .val (.long v3), .second, .val (.int (4 : Int32)), .val (.ref ad1183), .val (.ref ad1187), .val (.int (0 : Int32)), .unset, .unset, .unset, .unset, .unset, .unset, .unset, .unset, .unset, .unset, .unset, .unset] := ⟨_, rfl⟩
          refine own_up (S' := T1187.setTop (mkF m 146 La1191 [])) (fun t stp => XS.istore X1187.here hx rfl (hb hby at_144) rfl (l' := La1191) (by rw [hLa1190, hLa1191]; rfl) stp) ?_
          refine own_up (S' := T1187.setTop (mkF m 148 La1191 [(.int (1 : Int32))])) (fun t stp => XS.iload X1187.here hx rfl (hb hby at_146) (by rw [hLa1191]; rfl) stp) ?_
          have hc148_1192 : ¬ ((1 : Int32) = 0) := hc88_1178
          refine own_up (S' := T1187.setTop (mkF m 151 La1191 [])) (fun t stp => XS.ifNo X1187.here hx rfl (hb hby at_148) rfl (XT.i0_eq_f hc148_1192) stp) ?_
          refine own_up (S' := T1187.setTop (mkF m 153 La1191 [(.ref ad1183)])) (fun t stp => XS.aload X1187.here hx rfl (hb hby at_151) (by rw [hLa1191]; rfl) rfl stp) ?_
          refine own_up (S' := T1187.setTop (mkF m 155 La1191 [(.int (0 : Int32)), (.ref ad1183)])) (fun t stp => XS.iload X1187.here hx rfl (hb hby at_153) (by rw [hLa1191]; rfl) stp) ?_
          refine own_up (S' := T1187.setTop (mkF m 156 La1191 [(.int (0 : Int32)), (.int (0 : Int32)), (.ref ad1183)])) (fun t stp => XT.iconstV X1187.here hx rfl (0 : Int32) (hb hby at_155) rfl stp) ?_
          refine own_sti X1187 hx hZ e1187 Al1183_1189 0 (hb hby at_156) (rfl) (Nat.le_of_ble_eq_true rfl) rfl rfl (g' := (mkF m 157 La1191 [])) rfl ?_
          intro T1193 h1193 X1193 e1193 W1193 B1193
          have Zn1194 := Nat.le_trans Zn1188 (Nat.le_of_eq W1193.size.symm)
          have Al1187_1195 := own_Al_oth W1193 Al1187 (Ne.symm ne1187_ad1183_ad1187)
          have N1193 := Fr.snoc X1193 N0 g_ad1183
          have Al1193 : own_Al Z h1193 ad1183 .int [(.int (0 : Int32)), (.int (0 : Int32)), (.int (0 : Int32)), (.int (0 : Int32))] := B1193
          refine own_up (S' := T1193.setTop (mkF m 159 La1191 [(.ref ad1187)])) (fun t stp => XS.aload X1193.here hx rfl (hb hby at_157) (by rw [hLa1191]; rfl) rfl stp) ?_
          refine own_up (S' := T1193.setTop (mkF m 161 La1191 [(.int (0 : Int32)), (.ref ad1187)])) (fun t stp => XS.iload X1193.here hx rfl (hb hby at_159) (by rw [hLa1191]; rfl) stp) ?_
          refine own_up (S' := T1193.setTop (mkF m 163 La1191 [(.long u0), (.int (0 : Int32)), (.ref ad1187)])) (fun t stp => XT.lload X1193.here hx rfl (hb hby at_161) (by rw [hLa1191]; rfl) stp) ?_
          refine own_stj X1193 hx hZ e1193 Al1187_1195 0 (hb hby at_163) (rfl) (Nat.le_of_ble_eq_true rfl) rfl rfl (g' := (mkF m 164 La1191 [])) rfl ?_
          intro T1196 h1196 X1196 e1196 W1196 B1196
          have Zn1197 := Nat.le_trans Zn1194 (Nat.le_of_eq W1196.size.symm)
          have Al1193_1198 := own_Al_oth W1196 Al1193 ne1187_ad1183_ad1187
          have N1196 := Fr.snoc X1196 N1193 g_ad1187
          have Al1196 : own_Al Z h1196 ad1187 .long [(.long u0), (.long (0 : Int64)), (.long (0 : Int64)), (.long (0 : Int64))] := B1196
          obtain ⟨La1199, hLa1199⟩ : ∃ L : Array Slot, L = #[.val (.long l0), .second, .val (.long l1), .second, .val (.long l2), .second, .val (.long u0), .second, .val (.long u1), .second, .val (.int sel), .val (.int mm), .val (.int (1 : Int32)), .val (.int (1 : Int32)), .val (.int (1 : Int32)), .val (.int (1 : Int32)), .val (.long u0), .second, .val (.long u1), .second, .val (.long v2), .second, .val (.long v3), .second, .val (.int (4 : Int32)), .val (.ref ad1183), .val (.ref ad1187), .val (.int (1 : Int32)), .unset, .unset, .unset, .unset, .unset, .unset, .unset, .unset, .unset, .unset, .unset, .unset] := ⟨_, rfl⟩
          refine own_up (S' := T1196.setTop (mkF m 167 La1199 [])) (fun t stp => XT.iincV X1196.here hx rfl (1 : Int32) (hb hby at_164) rfl (by rw [hLa1191]; rfl) (l' := La1199) (by rw [hLa1191, hLa1199]; rfl) stp) ?_
          refine own_up (S' := T1196.setTop (mkF m 169 La1199 [(.int (1 : Int32))])) (fun t stp => XS.iload X1196.here hx rfl (hb hby at_167) (by rw [hLa1199]; rfl) stp) ?_
          have hc169_1200 : ¬ ((1 : Int32) = 0) := hc88_1178
          refine own_up (S' := T1196.setTop (mkF m 172 La1199 [])) (fun t stp => XS.ifNo X1196.here hx rfl (hb hby at_169) rfl (XT.i0_eq_f hc169_1200) stp) ?_
          refine own_up (S' := T1196.setTop (mkF m 174 La1199 [(.ref ad1183)])) (fun t stp => XS.aload X1196.here hx rfl (hb hby at_172) (by rw [hLa1199]; rfl) rfl stp) ?_
          refine own_up (S' := T1196.setTop (mkF m 176 La1199 [(.int (1 : Int32)), (.ref ad1183)])) (fun t stp => XS.iload X1196.here hx rfl (hb hby at_174) (by rw [hLa1199]; rfl) stp) ?_
          refine own_up (S' := T1196.setTop (mkF m 177 La1199 [(.int (1 : Int32)), (.int (1 : Int32)), (.ref ad1183)])) (fun t stp => XT.iconstV X1196.here hx rfl (1 : Int32) (hb hby at_176) rfl stp) ?_
          refine own_sti X1196 hx hZ e1196 Al1193_1198 1 (hb hby at_177) (rfl) (Nat.le_of_ble_eq_true rfl) rfl rfl (g' := (mkF m 178 La1199 [])) rfl ?_
          intro T1201 h1201 X1201 e1201 W1201 B1201
          have Zn1202 := Nat.le_trans Zn1197 (Nat.le_of_eq W1201.size.symm)
          have Al1196_1203 := own_Al_oth W1201 Al1196 (Ne.symm ne1187_ad1183_ad1187)
          have N1201 := Fr.snoc X1201 N1196 g_ad1183
          have Al1201 : own_Al Z h1201 ad1183 .int [(.int (0 : Int32)), (.int (1 : Int32)), (.int (0 : Int32)), (.int (0 : Int32))] := B1201
          refine own_up (S' := T1201.setTop (mkF m 180 La1199 [(.ref ad1187)])) (fun t stp => XS.aload X1201.here hx rfl (hb hby at_178) (by rw [hLa1199]; rfl) rfl stp) ?_
          refine own_up (S' := T1201.setTop (mkF m 182 La1199 [(.int (1 : Int32)), (.ref ad1187)])) (fun t stp => XS.iload X1201.here hx rfl (hb hby at_180) (by rw [hLa1199]; rfl) stp) ?_
          refine own_up (S' := T1201.setTop (mkF m 184 La1199 [(.long u1), (.int (1 : Int32)), (.ref ad1187)])) (fun t stp => XT.lload X1201.here hx rfl (hb hby at_182) (by rw [hLa1199]; rfl) stp) ?_
          refine own_stj X1201 hx hZ e1201 Al1196_1203 1 (hb hby at_184) (rfl) (Nat.le_of_ble_eq_true rfl) rfl rfl (g' := (mkF m 185 La1199 [])) rfl ?_
          intro T1204 h1204 X1204 e1204 W1204 B1204
          have Zn1205 := Nat.le_trans Zn1202 (Nat.le_of_eq W1204.size.symm)
          have Al1201_1206 := own_Al_oth W1204 Al1201 ne1187_ad1183_ad1187
          have N1204 := Fr.snoc X1204 N1201 g_ad1187
          have Al1204 : own_Al Z h1204 ad1187 .long [(.long u0), (.long u1), (.long (0 : Int64)), (.long (0 : Int64))] := B1204
          obtain ⟨La1207, hLa1207⟩ : ∃ L : Array Slot, L = #[.val (.long l0), .second, .val (.long l1), .second, .val (.long l2), .second, .val (.long u0), .second, .val (.long u1), .second, .val (.int sel), .val (.int mm), .val (.int (1 : Int32)), .val (.int (1 : Int32)), .val (.int (1 : Int32)), .val (.int (1 : Int32)), .val (.long u0), .second, .val (.long u1), .second, .val (.long v2), .second, .val (.long v3), .second, .val (.int (4 : Int32)), .val (.ref ad1183), .val (.ref ad1187), .val (.int (2 : Int32)), .unset, .unset, .unset, .unset, .unset, .unset, .unset, .unset, .unset, .unset, .unset, .unset] := ⟨_, rfl⟩
          refine own_up (S' := T1204.setTop (mkF m 188 La1207 [])) (fun t stp => XT.iincV X1204.here hx rfl (1 : Int32) (hb hby at_185) rfl (by rw [hLa1199]; rfl) (l' := La1207) (by rw [hLa1199, hLa1207]; rfl) stp) ?_
          refine own_up (S' := T1204.setTop (mkF m 190 La1207 [(.int (1 : Int32))])) (fun t stp => XS.iload X1204.here hx rfl (hb hby at_188) (by rw [hLa1207]; rfl) stp) ?_
          have hc190_1208 : ¬ ((1 : Int32) = 0) := hc88_1178
          refine own_up (S' := T1204.setTop (mkF m 193 La1207 [])) (fun t stp => XS.ifNo X1204.here hx rfl (hb hby at_190) rfl (XT.i0_eq_f hc190_1208) stp) ?_
          refine own_up (S' := T1204.setTop (mkF m 195 La1207 [(.ref ad1183)])) (fun t stp => XS.aload X1204.here hx rfl (hb hby at_193) (by rw [hLa1207]; rfl) rfl stp) ?_
          refine own_up (S' := T1204.setTop (mkF m 197 La1207 [(.int (2 : Int32)), (.ref ad1183)])) (fun t stp => XS.iload X1204.here hx rfl (hb hby at_195) (by rw [hLa1207]; rfl) stp) ?_
          refine own_up (S' := T1204.setTop (mkF m 198 La1207 [(.int (2 : Int32)), (.int (2 : Int32)), (.ref ad1183)])) (fun t stp => XT.iconstV X1204.here hx rfl (2 : Int32) (hb hby at_197) rfl stp) ?_
          refine own_sti X1204 hx hZ e1204 Al1201_1206 2 (hb hby at_198) (rfl) (Nat.le_of_ble_eq_true rfl) rfl rfl (g' := (mkF m 199 La1207 [])) rfl ?_
          intro T1209 h1209 X1209 e1209 W1209 B1209
          have Zn1210 := Nat.le_trans Zn1205 (Nat.le_of_eq W1209.size.symm)
          have Al1204_1211 := own_Al_oth W1209 Al1204 (Ne.symm ne1187_ad1183_ad1187)
          have N1209 := Fr.snoc X1209 N1204 g_ad1183
          have Al1209 : own_Al Z h1209 ad1183 .int [(.int (0 : Int32)), (.int (1 : Int32)), (.int (2 : Int32)), (.int (0 : Int32))] := B1209
          refine own_up (S' := T1209.setTop (mkF m 201 La1207 [(.ref ad1187)])) (fun t stp => XS.aload X1209.here hx rfl (hb hby at_199) (by rw [hLa1207]; rfl) rfl stp) ?_
          refine own_up (S' := T1209.setTop (mkF m 203 La1207 [(.int (2 : Int32)), (.ref ad1187)])) (fun t stp => XS.iload X1209.here hx rfl (hb hby at_201) (by rw [hLa1207]; rfl) stp) ?_
          refine own_up (S' := T1209.setTop (mkF m 205 La1207 [(.long v2), (.int (2 : Int32)), (.ref ad1187)])) (fun t stp => XT.lload X1209.here hx rfl (hb hby at_203) (by rw [hLa1207]; rfl) stp) ?_
          refine own_stj X1209 hx hZ e1209 Al1204_1211 2 (hb hby at_205) (rfl) (Nat.le_of_ble_eq_true rfl) rfl rfl (g' := (mkF m 206 La1207 [])) rfl ?_
          intro T1212 h1212 X1212 e1212 W1212 B1212
          have Zn1213 := Nat.le_trans Zn1210 (Nat.le_of_eq W1212.size.symm)
          have Al1209_1214 := own_Al_oth W1212 Al1209 ne1187_ad1183_ad1187
          have N1212 := Fr.snoc X1212 N1209 g_ad1187
          have Al1212 : own_Al Z h1212 ad1187 .long [(.long u0), (.long u1), (.long v2), (.long (0 : Int64))] := B1212
          obtain ⟨La1215, hLa1215⟩ : ∃ L : Array Slot, L = #[.val (.long l0), .second, .val (.long l1), .second, .val (.long l2), .second, .val (.long u0), .second, .val (.long u1), .second, .val (.int sel), .val (.int mm), .val (.int (1 : Int32)), .val (.int (1 : Int32)), .val (.int (1 : Int32)), .val (.int (1 : Int32)), .val (.long u0), .second, .val (.long u1), .second, .val (.long v2), .second, .val (.long v3), .second, .val (.int (4 : Int32)), .val (.ref ad1183), .val (.ref ad1187), .val (.int (3 : Int32)), .unset, .unset, .unset, .unset, .unset, .unset, .unset, .unset, .unset, .unset, .unset, .unset] := ⟨_, rfl⟩
          refine own_up (S' := T1212.setTop (mkF m 209 La1215 [])) (fun t stp => XT.iincV X1212.here hx rfl (1 : Int32) (hb hby at_206) rfl (by rw [hLa1207]; rfl) (l' := La1215) (by rw [hLa1207, hLa1215]; rfl) stp) ?_
          refine own_up (S' := T1212.setTop (mkF m 211 La1215 [(.int (1 : Int32))])) (fun t stp => XS.iload X1212.here hx rfl (hb hby at_209) (by rw [hLa1215]; rfl) stp) ?_
          have hc211_1216 : ¬ ((1 : Int32) = 0) := hc88_1178
          refine own_up (S' := T1212.setTop (mkF m 214 La1215 [])) (fun t stp => XS.ifNo X1212.here hx rfl (hb hby at_211) rfl (XT.i0_eq_f hc211_1216) stp) ?_
          refine own_up (S' := T1212.setTop (mkF m 216 La1215 [(.ref ad1183)])) (fun t stp => XS.aload X1212.here hx rfl (hb hby at_214) (by rw [hLa1215]; rfl) rfl stp) ?_
          refine own_up (S' := T1212.setTop (mkF m 218 La1215 [(.int (3 : Int32)), (.ref ad1183)])) (fun t stp => XS.iload X1212.here hx rfl (hb hby at_216) (by rw [hLa1215]; rfl) stp) ?_
          refine own_up (S' := T1212.setTop (mkF m 219 La1215 [(.int (3 : Int32)), (.int (3 : Int32)), (.ref ad1183)])) (fun t stp => XT.iconstV X1212.here hx rfl (3 : Int32) (hb hby at_218) rfl stp) ?_
          refine own_sti X1212 hx hZ e1212 Al1209_1214 3 (hb hby at_219) (rfl) (Nat.le_of_ble_eq_true rfl) rfl rfl (g' := (mkF m 220 La1215 [])) rfl ?_
          intro T1217 h1217 X1217 e1217 W1217 B1217
          have Zn1218 := Nat.le_trans Zn1213 (Nat.le_of_eq W1217.size.symm)
          have Al1212_1219 := own_Al_oth W1217 Al1212 (Ne.symm ne1187_ad1183_ad1187)
          have N1217 := Fr.snoc X1217 N1212 g_ad1183
          have Al1217 : own_Al Z h1217 ad1183 .int [(.int (0 : Int32)), (.int (1 : Int32)), (.int (2 : Int32)), (.int (3 : Int32))] := B1217
          refine own_up (S' := T1217.setTop (mkF m 222 La1215 [(.ref ad1187)])) (fun t stp => XS.aload X1217.here hx rfl (hb hby at_220) (by rw [hLa1215]; rfl) rfl stp) ?_
          refine own_up (S' := T1217.setTop (mkF m 224 La1215 [(.int (3 : Int32)), (.ref ad1187)])) (fun t stp => XS.iload X1217.here hx rfl (hb hby at_222) (by rw [hLa1215]; rfl) stp) ?_
          refine own_up (S' := T1217.setTop (mkF m 226 La1215 [(.long v3), (.int (3 : Int32)), (.ref ad1187)])) (fun t stp => XT.lload X1217.here hx rfl (hb hby at_224) (by rw [hLa1215]; rfl) stp) ?_
          refine own_stj X1217 hx hZ e1217 Al1212_1219 3 (hb hby at_226) (rfl) (Nat.le_of_ble_eq_true rfl) rfl rfl (g' := (mkF m 227 La1215 [])) rfl ?_
          intro T1220 h1220 X1220 e1220 W1220 B1220
          have Zn1221 := Nat.le_trans Zn1218 (Nat.le_of_eq W1220.size.symm)
          have Al1217_1222 := own_Al_oth W1220 Al1217 ne1187_ad1183_ad1187
          have N1220 := Fr.snoc X1220 N1217 g_ad1187
          have Al1220 : own_Al Z h1220 ad1187 .long [(.long u0), (.long u1), (.long v2), (.long v3)] := B1220
          obtain ⟨La1223, hLa1223⟩ : ∃ L : Array Slot, L = #[.val (.long l0), .second, .val (.long l1), .second, .val (.long l2), .second, .val (.long u0), .second, .val (.long u1), .second, .val (.int sel), .val (.int mm), .val (.int (1 : Int32)), .val (.int (1 : Int32)), .val (.int (1 : Int32)), .val (.int (1 : Int32)), .val (.long u0), .second, .val (.long u1), .second, .val (.long v2), .second, .val (.long v3), .second, .val (.int (4 : Int32)), .val (.ref ad1183), .val (.ref ad1187), .val (.int (4 : Int32)), .unset, .unset, .unset, .unset, .unset, .unset, .unset, .unset, .unset, .unset, .unset, .unset] := ⟨_, rfl⟩
          refine own_up (S' := T1220.setTop (mkF m 230 La1223 [])) (fun t stp => XT.iincV X1220.here hx rfl (1 : Int32) (hb hby at_227) rfl (by rw [hLa1215]; rfl) (l' := La1223) (by rw [hLa1215, hLa1223]; rfl) stp) ?_
          refine own_up (S' := T1220.setTop (mkF m 231 La1223 [(.long l0)])) (fun t stp => XT.lloadN X1220.here hx rfl (hb hby at_230) (by rw [hLa1223]; rfl) stp) ?_
          refine own_up (S' := T1220.setTop (mkF m 232 La1223 [(.long l1), (.long l0)])) (fun t stp => XT.lloadN X1220.here hx rfl (hb hby at_231) (by rw [hLa1223]; rfl) stp) ?_
          refine own_up (S' := T1220.setTop (mkF m 233 La1223 [(.long (l0 ^^^ l1))])) (fun t stp => XT.lxor X1220.here hx rfl (hb hby at_232) rfl stp) ?_
          obtain ⟨l3, h_l3⟩ : ∃ z : Int64, z = (l0 ^^^ l1) := ⟨_, rfl⟩
          rw [← h_l3]
          obtain ⟨La1224, hLa1224⟩ : ∃ L : Array Slot, L = #[.val (.long l0), .second, .val (.long l1), .second, .val (.long l2), .second, .val (.long u0), .second, .val (.long u1), .second, .val (.int sel), .val (.int mm), .val (.int (1 : Int32)), .val (.int (1 : Int32)), .val (.int (1 : Int32)), .val (.int (1 : Int32)), .val (.long u0), .second, .val (.long u1), .second, .val (.long v2), .second, .val (.long v3), .second, .val (.int (4 : Int32)), .val (.ref ad1183), .val (.ref ad1187), .val (.int (4 : Int32)), .val (.long l3), .second, .unset, .unset, .unset, .unset, .unset, .unset, .unset, .unset, .unset, .unset] := ⟨_, rfl⟩
          refine own_up (S' := T1220.setTop (mkF m 235 La1224 [])) (fun t stp => XT.lstore X1220.here hx rfl (hb hby at_233) rfl (l' := La1224) (by rw [hLa1223, hLa1224]; rfl) stp) ?_
          refine own_up (S' := T1220.setTop (mkF m 236 La1224 [(.int (4 : Int32))])) (fun t stp => XT.iconstV X1220.here hx rfl (4 : Int32) (hb hby at_235) rfl stp) ?_
          refine own_newa X1220 hx hZ (ty := .long) rfl (hw _ (List.mem_of_getElem? (i := 1) rfl)) e1220 4 (hb hby at_236) (rfl) 4 (by decide) (by decide) (by decide) (by decide) rfl rfl ?_
          intro T1225 h1225 ad1225 hb1225 X1225 e1225 E1225 A1225
          have ne1225_ad1183_ad1225 : ad1183 ≠ ad1225 := Nat.ne_of_lt (Nat.lt_of_lt_of_eq (own_Al_lt Al1217_1222) hb1225.symm)
          have ne1225_ad1187_ad1225 : ad1187 ≠ ad1225 := Nat.ne_of_lt (Nat.lt_of_lt_of_eq (own_Al_lt Al1220) hb1225.symm)
          have g_ad1225 : n0 ≤ ad1225 := Nat.le_trans Zn1221 (Nat.le_of_eq hb1225.symm)
          have Zn1226 := Nat.le_trans Zn1221 E1225.1
          have Al1217_1227 := own_Al_ext E1225 Al1217_1222
          have Al1220_1227 := own_Al_ext E1225 Al1220
          have Al1225 : own_Al Z h1225 ad1225 .long [(.long (0 : Int64)), (.long (0 : Int64)), (.long (0 : Int64)), (.long (0 : Int64))] := A1225
          show own_Ends p e below s (own_Q0 Z l0 l1 l2 u0 u1 sel h0 n0) room_1.cells room_1.slots (T1225.setTop (mkF m 238 La1224 [(.ref ad1225)]))
          refine own_up (S' := T1225.setTop (mkF m 239 La1224 [(.ref ad1225), (.ref ad1225)])) (fun t stp => XS.dup X1225.here hx rfl (hb hby at_238) rfl rfl stp) ?_
          refine own_up (S' := T1225.setTop (mkF m 240 La1224 [(.int (0 : Int32)), (.ref ad1225), (.ref ad1225)])) (fun t stp => XT.iconstV X1225.here hx rfl (0 : Int32) (hb hby at_239) rfl stp) ?_
          refine own_up (S' := T1225.setTop (mkF m 241 La1224 [(.long l0), (.int (0 : Int32)), (.ref ad1225), (.ref ad1225)])) (fun t stp => XT.lloadN X1225.here hx rfl (hb hby at_240) (by rw [hLa1224]; rfl) stp) ?_
          refine own_stj X1225 hx hZ e1225 Al1225 0 (hb hby at_241) (rfl) (Nat.le_of_ble_eq_true rfl) rfl rfl (g' := (mkF m 242 La1224 [(.ref ad1225)])) rfl ?_
          intro T1228 h1228 X1228 e1228 W1228 B1228
          have Zn1229 := Nat.le_trans Zn1226 (Nat.le_of_eq W1228.size.symm)
          have Al1217_1230 := own_Al_oth W1228 Al1217_1227 ne1225_ad1183_ad1225
          have Al1220_1230 := own_Al_oth W1228 Al1220_1227 ne1225_ad1187_ad1225
          have N1228 := Fr.snoc X1228 N1220 g_ad1225
          have Al1228 : own_Al Z h1228 ad1225 .long [(.long l0), (.long (0 : Int64)), (.long (0 : Int64)), (.long (0 : Int64))] := B1228
          refine own_up (S' := T1228.setTop (mkF m 243 La1224 [(.ref ad1225), (.ref ad1225)])) (fun t stp => XS.dup X1228.here hx rfl (hb hby at_242) rfl rfl stp) ?_
          refine own_up (S' := T1228.setTop (mkF m 244 La1224 [(.int (1 : Int32)), (.ref ad1225), (.ref ad1225)])) (fun t stp => XT.iconstV X1228.here hx rfl (1 : Int32) (hb hby at_243) rfl stp) ?_
          refine own_up (S' := T1228.setTop (mkF m 245 La1224 [(.long l1), (.int (1 : Int32)), (.ref ad1225), (.ref ad1225)])) (fun t stp => XT.lloadN X1228.here hx rfl (hb hby at_244) (by rw [hLa1224]; rfl) stp) ?_
          refine own_stj X1228 hx hZ e1228 Al1228 1 (hb hby at_245) (rfl) (Nat.le_of_ble_eq_true rfl) rfl rfl (g' := (mkF m 246 La1224 [(.ref ad1225)])) rfl ?_
          intro T1231 h1231 X1231 e1231 W1231 B1231
          have Zn1232 := Nat.le_trans Zn1229 (Nat.le_of_eq W1231.size.symm)
          have Al1217_1233 := own_Al_oth W1231 Al1217_1230 ne1225_ad1183_ad1225
          have Al1220_1233 := own_Al_oth W1231 Al1220_1230 ne1225_ad1187_ad1225
          have N1231 := Fr.snoc X1231 N1228 g_ad1225
          have Al1231 : own_Al Z h1231 ad1225 .long [(.long l0), (.long l1), (.long (0 : Int64)), (.long (0 : Int64))] := B1231
          refine own_up (S' := T1231.setTop (mkF m 247 La1224 [(.ref ad1225), (.ref ad1225)])) (fun t stp => XS.dup X1231.here hx rfl (hb hby at_246) rfl rfl stp) ?_
          refine own_up (S' := T1231.setTop (mkF m 248 La1224 [(.int (2 : Int32)), (.ref ad1225), (.ref ad1225)])) (fun t stp => XT.iconstV X1231.here hx rfl (2 : Int32) (hb hby at_247) rfl stp) ?_
          refine own_up (S' := T1231.setTop (mkF m 250 La1224 [(.long l2), (.int (2 : Int32)), (.ref ad1225), (.ref ad1225)])) (fun t stp => XT.lload X1231.here hx rfl (hb hby at_248) (by rw [hLa1224]; rfl) stp) ?_
          refine own_stj X1231 hx hZ e1231 Al1231 2 (hb hby at_250) (rfl) (Nat.le_of_ble_eq_true rfl) rfl rfl (g' := (mkF m 251 La1224 [(.ref ad1225)])) rfl ?_
          intro T1234 h1234 X1234 e1234 W1234 B1234
          have Zn1235 := Nat.le_trans Zn1232 (Nat.le_of_eq W1234.size.symm)
          have Al1217_1236 := own_Al_oth W1234 Al1217_1233 ne1225_ad1183_ad1225
          have Al1220_1236 := own_Al_oth W1234 Al1220_1233 ne1225_ad1187_ad1225
          have N1234 := Fr.snoc X1234 N1231 g_ad1225
          have Al1234 : own_Al Z h1234 ad1225 .long [(.long l0), (.long l1), (.long l2), (.long (0 : Int64))] := B1234
          refine own_up (S' := T1234.setTop (mkF m 252 La1224 [(.ref ad1225), (.ref ad1225)])) (fun t stp => XS.dup X1234.here hx rfl (hb hby at_251) rfl rfl stp) ?_
          refine own_up (S' := T1234.setTop (mkF m 253 La1224 [(.int (3 : Int32)), (.ref ad1225), (.ref ad1225)])) (fun t stp => XT.iconstV X1234.here hx rfl (3 : Int32) (hb hby at_252) rfl stp) ?_
          refine own_up (S' := T1234.setTop (mkF m 255 La1224 [(.long l3), (.int (3 : Int32)), (.ref ad1225), (.ref ad1225)])) (fun t stp => XT.lload X1234.here hx rfl (hb hby at_253) (by rw [hLa1224]; rfl) stp) ?_
          refine own_stj X1234 hx hZ e1234 Al1234 3 (hb hby at_255) (rfl) (Nat.le_of_ble_eq_true rfl) rfl rfl (g' := (mkF m 256 La1224 [(.ref ad1225)])) rfl ?_
          intro T1237 h1237 X1237 e1237 W1237 B1237
          have Zn1238 := Nat.le_trans Zn1235 (Nat.le_of_eq W1237.size.symm)
          have Al1217_1239 := own_Al_oth W1237 Al1217_1236 ne1225_ad1183_ad1225
          have Al1220_1239 := own_Al_oth W1237 Al1220_1236 ne1225_ad1187_ad1225
          have N1237 := Fr.snoc X1237 N1234 g_ad1225
          have Al1237 : own_Al Z h1237 ad1225 .long [(.long l0), (.long l1), (.long l2), (.long l3)] := B1237
          obtain ⟨La1240, hLa1240⟩ : ∃ L : Array Slot, L = #[.val (.long l0), .second, .val (.long l1), .second, .val (.long l2), .second, .val (.long u0), .second, .val (.long u1), .second, .val (.int sel), .val (.int mm), .val (.int (1 : Int32)), .val (.int (1 : Int32)), .val (.int (1 : Int32)), .val (.int (1 : Int32)), .val (.long u0), .second, .val (.long u1), .second, .val (.long v2), .second, .val (.long v3), .second, .val (.int (4 : Int32)), .val (.ref ad1183), .val (.ref ad1187), .val (.int (4 : Int32)), .val (.long l3), .second, .val (.ref ad1225), .unset, .unset, .unset, .unset, .unset, .unset, .unset, .unset, .unset] := ⟨_, rfl⟩
          refine own_up (S' := T1237.setTop (mkF m 258 La1240 [])) (fun t stp => XS.astore X1237.here hx rfl (hb hby at_256) rfl rfl (l' := La1240) (by rw [hLa1224, hLa1240]; rfl) stp) ?_
          refine own_new X1237 hx hZ hown (hw _ (List.mem_of_getElem? (i := 2) rfl)) (hw _ (List.mem_of_getElem? (i := 3) rfl)) (hw _ (List.mem_of_getElem? (i := 4) rfl)) e1237 rfl (hb hby at_258) (by decide) (by decide) ?_
          intro T1241 h1241 ob hb1241 X1241 e1241 E1241 A1241 D1241
          have ne1241_ad1183_ob : ad1183 ≠ ob := Nat.ne_of_lt (Nat.lt_of_lt_of_eq (own_Al_lt Al1217_1239) hb1241.symm)
          have ne1241_ad1187_ob : ad1187 ≠ ob := Nat.ne_of_lt (Nat.lt_of_lt_of_eq (own_Al_lt Al1220_1239) hb1241.symm)
          have ne1241_ad1225_ob : ad1225 ≠ ob := Nat.ne_of_lt (Nat.lt_of_lt_of_eq (own_Al_lt Al1237) hb1241.symm)
          have g_ob : n0 ≤ ob := Nat.le_trans Zn1238 (Nat.le_of_eq hb1241.symm)
          have Zn1242 := Nat.le_trans Zn1238 E1241.1
          have Al1217_1243 := own_Al_ext E1241 Al1217_1239
          have Al1220_1243 := own_Al_ext E1241 Al1220_1239
          have Al1237_1243 := own_Al_ext E1241 Al1237
          have Fresources_ob : Fld Z h1241 ob "com/example/outcry/outcry/combinatorial/Bundle" "resources" "[I" .null := D1241 (Or.inr (hw _ (List.mem_of_getElem? (i := 17) rfl))) (ty := (.array .int)) (by decide)
          have Funits_ob : Fld Z h1241 ob "com/example/outcry/outcry/combinatorial/Bundle" "units" "[J" .null := D1241 (Or.inr (hw _ (List.mem_of_getElem? (i := 19) rfl))) (ty := (.array .long)) (by decide)
          show own_Ends p e below s (own_Q0 Z l0 l1 l2 u0 u1 sel h0 n0) room_1.cells room_1.slots (T1241.setTop (mkF m 261 La1240 [(.ref ob)]))
          refine own_up (S' := T1241.setTop (mkF m 262 La1240 [(.ref ob), (.ref ob)])) (fun t stp => XS.dup X1241.here hx rfl (hb hby at_261) rfl rfl stp) ?_
          refine own_up (S' := T1241.setTop (mkF m 264 La1240 [(.ref ad1183), (.ref ob), (.ref ob)])) (fun t stp => XS.aload X1241.here hx rfl (hb hby at_262) (by rw [hLa1240]; rfl) rfl stp) ?_
          refine own_up (S' := T1241.setTop (mkF m 266 La1240 [(.ref ad1187), (.ref ad1183), (.ref ob), (.ref ob)])) (fun t stp => XS.aload X1241.here hx rfl (hb hby at_264) (by rw [hLa1240]; rfl) rfl stp) ?_
          refine own_callI X1241 hx hZ rfl hown (hw _ (List.mem_of_getElem? (i := 5) rfl)) (hw _ (List.mem_of_getElem? (i := 6) rfl)) (hw _ (List.mem_of_getElem? (i := 4) rfl)) (hw _ (List.mem_of_getElem? (i := 7) rfl)) (by decide) e1241 (rm2 l Z a0 hw [] ob ad1183 ad1187 h1241 n0 Zn1242 Fresources_ob Funits_ob A1241 g_ob) 1 ob [(.ref ad1183), (.ref ad1187)] [(.ref ob)] (hb hby at_266) (lenOf own_pd1 rfl) (by decide) (by decide) (by decide) (by decide) rfl (by rw [hml, hLa1240]; rfl) rfl (by show 2 * 0 + _ ≤ _; exact Nat.le_of_eq rfl) rfl ?_
          intro T1244 L1244 r1244 X1244 q1244
          obtain ⟨rfl, M1244, K1244, G1244a_1244, G1244b_1244⟩ := q1244
          have N1244 := Fr.app N1237 M1244
          have Zn1245 := Nat.le_trans Zn1242 K1244.1
          have Al1217_1246 := own_Al_keep K1244 Al1217_1243 (ninS ne1241_ad1183_ob nin0)
          have Al1220_1246 := own_Al_keep K1244 Al1220_1243 (ninS ne1241_ad1187_ob nin0)
          have Al1237_1246 := own_Al_keep K1244 Al1237_1243 (ninS ne1241_ad1225_ob nin0)
          have A1241_1246 := A1241.keep K1244
          show own_Ends p e below s (own_Q0 Z l0 l1 l2 u0 u1 sel h0 n0) room_1.cells room_1.slots (T1244.setTop (mkF m 269 La1240 [(.ref ob)]))
          obtain ⟨La1247, hLa1247⟩ : ∃ L : Array Slot, L = #[.val (.long l0), .second, .val (.long l1), .second, .val (.long l2), .second, .val (.long u0), .second, .val (.long u1), .second, .val (.int sel), .val (.int mm), .val (.int (1 : Int32)), .val (.int (1 : Int32)), .val (.int (1 : Int32)), .val (.int (1 : Int32)), .val (.long u0), .second, .val (.long u1), .second, .val (.long v2), .second, .val (.long v3), .second, .val (.int (4 : Int32)), .val (.ref ad1183), .val (.ref ad1187), .val (.int (4 : Int32)), .val (.long l3), .second, .val (.ref ad1225), .val (.ref ob), .unset, .unset, .unset, .unset, .unset, .unset, .unset, .unset] := ⟨_, rfl⟩
          refine own_up (S' := T1244.setTop (mkF m 271 La1247 [])) (fun t stp => XS.astore X1244.here hx rfl (hb hby at_269) rfl rfl (l' := La1247) (by rw [hLa1240, hLa1247]; rfl) stp) ?_
          refine own_up (S' := T1244.setTop (mkF m 273 La1247 [(.ref ob)])) (fun t stp => XS.aload X1244.here hx rfl (hb hby at_271) (by rw [hLa1247]; rfl) rfl stp) ?_
          refine own_up (S' := T1244.setTop (mkF m 275 La1247 [(.ref ad1225), (.ref ob)])) (fun t stp => XS.aload X1244.here hx rfl (hb hby at_273) (by rw [hLa1247]; rfl) rfl stp) ?_
          refine own_callV X1244 hx hZ hown (hw _ (List.mem_of_getElem? (i := 20) rfl)) (hw _ (List.mem_of_getElem? (i := 21) rfl)) (hw _ (List.mem_of_getElem? (i := 23) rfl)) (hw _ (List.mem_of_getElem? (i := 22) rfl)) (hw _ (List.mem_of_getElem? (i := 4) rfl)) (hw _ (List.mem_of_getElem? (i := 24) rfl)) (by decide) rfl (rm14 l Z a0 hw [] ob ad1225 ad1183 ad1187 [(.long l0), (.long l1), (.long l2), (.long l3)] (0 : Int32) u0 (0) l0 (1 : Int32) u1 (1) l1 (2 : Int32) v2 (2) l2 (3 : Int32) v3 (3) l3 T1244.heap n0 Zn1245 G1244a_1244 G1244b_1244 Al1217_1246 Al1220_1246 Al1237_1246 g_ad1225 ne1225_ad1183_ad1225 ne1225_ad1187_ad1225 (Ne.symm ne1241_ad1225_ob) (rfl) (rfl) (rfl) (rfl) (rfl) (rfl) (rfl) (rfl)) 0 A1241_1246 [(.ref ad1225)] [] (hb hby at_275) (lenOf own_pd2 rfl) (by decide) (by decide) (by decide) (by decide) rfl (by rw [hml, hLa1247]; rfl) rfl (by show 2 * 0 + _ ≤ _; exact Nat.le_of_eq rfl) rfl ?_
          intro T1248 L1248 r1248 X1248 q1248
          obtain ⟨rfl, M1248, K1248, G1248a_1248⟩ := q1248
          have N1248 := Fr.app N1244 M1248
          have Zn1249 := Nat.le_trans Zn1245 K1248.1
          have Al1217_1250 := own_Al_keep K1248 Al1217_1246 (ninS ne1225_ad1183_ad1225 nin0)
          have Al1220_1250 := own_Al_keep K1248 Al1220_1246 (ninS ne1225_ad1187_ad1225 nin0)
          have A1241_1250 := A1241_1246.keep K1248
          have G1244a_1250 := G1244a_1244.keep K1248 (ninS (Ne.symm ne1241_ad1225_ob) nin0)
          have G1244b_1250 := G1244b_1244.keep K1248 (ninS (Ne.symm ne1241_ad1225_ob) nin0)
          show own_Ends p e below s (own_Q0 Z l0 l1 l2 u0 u1 sel h0 n0) room_1.cells room_1.slots (T1248.setTop (mkF m 278 La1247 []))
          have Tk1248 : own_Al Z T1248.heap ad1225 .long [(.long (l0 - u0)), (.long (l1 - u1)), (.long (l2 - v2)), (.long (l3 - v3))] := G1248a_1248
          refine own_up (S' := T1248.setTop (mkF m 280 La1247 [(.int (1 : Int32))])) (fun t stp => XS.iload X1248.here hx rfl (hb hby at_278) (by rw [hLa1247]; rfl) stp) ?_
          have hc280_1251 : ¬ ((1 : Int32) = 0) := hc88_1178
          refine own_up (S' := T1248.setTop (mkF m 283 La1247 [])) (fun t stp => XS.ifNo X1248.here hx rfl (hb hby at_280) rfl (XT.i0_eq_f hc280_1251) stp) ?_
          refine own_up (S' := T1248.setTop (mkF m 284 La1247 [(.long l0)])) (fun t stp => XT.lloadN X1248.here hx rfl (hb hby at_283) (by rw [hLa1247]; rfl) stp) ?_
          refine own_up (S' := T1248.setTop (mkF m 286 La1247 [(.long u0), (.long l0)])) (fun t stp => XT.lload X1248.here hx rfl (hb hby at_284) (by rw [hLa1247]; rfl) stp) ?_
          refine own_up (S' := T1248.setTop (mkF m 287 La1247 [(.long (l0 - u0))])) (fun t stp => XT.lsub X1248.here hx rfl (hb hby at_286) rfl stp) ?_
          refine own_up (S' := T1248.setTop (mkF m 291 La1247 [(.long (l0 - u0))])) (fun t stp => XS.goto X1248.here hx rfl (pc0 := 287) (pc' := 291) rfl (hb hby at_287) (by decide) (by decide) stp) ?_
          obtain ⟨e0q, h_e0q⟩ : ∃ z : Int64, z = (l0 - u0) := ⟨_, rfl⟩
          rw [← h_e0q]
          obtain ⟨La1252, hLa1252⟩ : ∃ L : Array Slot, L = #[.val (.long l0), .second, .val (.long l1), .second, .val (.long l2), .second, .val (.long u0), .second, .val (.long u1), .second, .val (.int sel), .val (.int mm), .val (.int (1 : Int32)), .val (.int (1 : Int32)), .val (.int (1 : Int32)), .val (.int (1 : Int32)), .val (.long u0), .second, .val (.long u1), .second, .val (.long v2), .second, .val (.long v3), .second, .val (.int (4 : Int32)), .val (.ref ad1183), .val (.ref ad1187), .val (.int (4 : Int32)), .val (.long l3), .second, .val (.ref ad1225), .val (.ref ob), .val (.long e0q), .second, .unset, .unset, .unset, .unset, .unset, .unset] := ⟨_, rfl⟩
          refine own_up (S' := T1248.setTop (mkF m 293 La1252 [])) (fun t stp => XT.lstore X1248.here hx rfl (hb hby at_291) rfl (l' := La1252) (by rw [hLa1247, hLa1252]; rfl) stp) ?_
          refine own_up (S' := T1248.setTop (mkF m 295 La1252 [(.int (1 : Int32))])) (fun t stp => XS.iload X1248.here hx rfl (hb hby at_293) (by rw [hLa1252]; rfl) stp) ?_
          have hc295_1253 : ¬ ((1 : Int32) = 0) := hc88_1178
          refine own_up (S' := T1248.setTop (mkF m 298 La1252 [])) (fun t stp => XS.ifNo X1248.here hx rfl (hb hby at_295) rfl (XT.i0_eq_f hc295_1253) stp) ?_
          refine own_up (S' := T1248.setTop (mkF m 299 La1252 [(.long l1)])) (fun t stp => XT.lloadN X1248.here hx rfl (hb hby at_298) (by rw [hLa1252]; rfl) stp) ?_
          refine own_up (S' := T1248.setTop (mkF m 301 La1252 [(.long u1), (.long l1)])) (fun t stp => XT.lload X1248.here hx rfl (hb hby at_299) (by rw [hLa1252]; rfl) stp) ?_
          refine own_up (S' := T1248.setTop (mkF m 302 La1252 [(.long (l1 - u1))])) (fun t stp => XT.lsub X1248.here hx rfl (hb hby at_301) rfl stp) ?_
          refine own_up (S' := T1248.setTop (mkF m 306 La1252 [(.long (l1 - u1))])) (fun t stp => XS.goto X1248.here hx rfl (pc0 := 302) (pc' := 306) rfl (hb hby at_302) (by decide) (by decide) stp) ?_
          obtain ⟨e1q, h_e1q⟩ : ∃ z : Int64, z = (l1 - u1) := ⟨_, rfl⟩
          rw [← h_e1q]
          obtain ⟨La1254, hLa1254⟩ : ∃ L : Array Slot, L = #[.val (.long l0), .second, .val (.long l1), .second, .val (.long l2), .second, .val (.long u0), .second, .val (.long u1), .second, .val (.int sel), .val (.int mm), .val (.int (1 : Int32)), .val (.int (1 : Int32)), .val (.int (1 : Int32)), .val (.int (1 : Int32)), .val (.long u0), .second, .val (.long u1), .second, .val (.long v2), .second, .val (.long v3), .second, .val (.int (4 : Int32)), .val (.ref ad1183), .val (.ref ad1187), .val (.int (4 : Int32)), .val (.long l3), .second, .val (.ref ad1225), .val (.ref ob), .val (.long e0q), .second, .val (.long e1q), .second, .unset, .unset, .unset, .unset] := ⟨_, rfl⟩
          refine own_up (S' := T1248.setTop (mkF m 308 La1254 [])) (fun t stp => XT.lstore X1248.here hx rfl (hb hby at_306) rfl (l' := La1254) (by rw [hLa1252, hLa1254]; rfl) stp) ?_
          refine own_up (S' := T1248.setTop (mkF m 310 La1254 [(.int (1 : Int32))])) (fun t stp => XS.iload X1248.here hx rfl (hb hby at_308) (by rw [hLa1254]; rfl) stp) ?_
          have hc310_1255 : ¬ ((1 : Int32) = 0) := hc88_1178
          refine own_up (S' := T1248.setTop (mkF m 313 La1254 [])) (fun t stp => XS.ifNo X1248.here hx rfl (hb hby at_310) rfl (XT.i0_eq_f hc310_1255) stp) ?_
          refine own_up (S' := T1248.setTop (mkF m 315 La1254 [(.long l2)])) (fun t stp => XT.lload X1248.here hx rfl (hb hby at_313) (by rw [hLa1254]; rfl) stp) ?_
          refine own_up (S' := T1248.setTop (mkF m 317 La1254 [(.long v2), (.long l2)])) (fun t stp => XT.lload X1248.here hx rfl (hb hby at_315) (by rw [hLa1254]; rfl) stp) ?_
          refine own_up (S' := T1248.setTop (mkF m 318 La1254 [(.long (l2 - v2))])) (fun t stp => XT.lsub X1248.here hx rfl (hb hby at_317) rfl stp) ?_
          refine own_up (S' := T1248.setTop (mkF m 323 La1254 [(.long (l2 - v2))])) (fun t stp => XS.goto X1248.here hx rfl (pc0 := 318) (pc' := 323) rfl (hb hby at_318) (by decide) (by decide) stp) ?_
          obtain ⟨e2q, h_e2q⟩ : ∃ z : Int64, z = (l2 - v2) := ⟨_, rfl⟩
          rw [← h_e2q]
          obtain ⟨La1256, hLa1256⟩ : ∃ L : Array Slot, L = #[.val (.long l0), .second, .val (.long l1), .second, .val (.long l2), .second, .val (.long u0), .second, .val (.long u1), .second, .val (.int sel), .val (.int mm), .val (.int (1 : Int32)), .val (.int (1 : Int32)), .val (.int (1 : Int32)), .val (.int (1 : Int32)), .val (.long u0), .second, .val (.long u1), .second, .val (.long v2), .second, .val (.long v3), .second, .val (.int (4 : Int32)), .val (.ref ad1183), .val (.ref ad1187), .val (.int (4 : Int32)), .val (.long l3), .second, .val (.ref ad1225), .val (.ref ob), .val (.long e0q), .second, .val (.long e1q), .second, .val (.long e2q), .second, .unset, .unset] := ⟨_, rfl⟩
          refine own_up (S' := T1248.setTop (mkF m 325 La1256 [])) (fun t stp => XT.lstore X1248.here hx rfl (hb hby at_323) rfl (l' := La1256) (by rw [hLa1254, hLa1256]; rfl) stp) ?_
          refine own_up (S' := T1248.setTop (mkF m 327 La1256 [(.int (1 : Int32))])) (fun t stp => XS.iload X1248.here hx rfl (hb hby at_325) (by rw [hLa1256]; rfl) stp) ?_
          have hc327_1257 : ¬ ((1 : Int32) = 0) := hc88_1178
          refine own_up (S' := T1248.setTop (mkF m 330 La1256 [])) (fun t stp => XS.ifNo X1248.here hx rfl (hb hby at_327) rfl (XT.i0_eq_f hc327_1257) stp) ?_
          refine own_up (S' := T1248.setTop (mkF m 332 La1256 [(.long l3)])) (fun t stp => XT.lload X1248.here hx rfl (hb hby at_330) (by rw [hLa1256]; rfl) stp) ?_
          refine own_up (S' := T1248.setTop (mkF m 334 La1256 [(.long v3), (.long l3)])) (fun t stp => XT.lload X1248.here hx rfl (hb hby at_332) (by rw [hLa1256]; rfl) stp) ?_
          refine own_up (S' := T1248.setTop (mkF m 335 La1256 [(.long (l3 - v3))])) (fun t stp => XT.lsub X1248.here hx rfl (hb hby at_334) rfl stp) ?_
          refine own_up (S' := T1248.setTop (mkF m 340 La1256 [(.long (l3 - v3))])) (fun t stp => XS.goto X1248.here hx rfl (pc0 := 335) (pc' := 340) rfl (hb hby at_335) (by decide) (by decide) stp) ?_
          obtain ⟨e3q, h_e3q⟩ : ∃ z : Int64, z = (l3 - v3) := ⟨_, rfl⟩
          rw [← h_e3q]
          obtain ⟨La1258, hLa1258⟩ : ∃ L : Array Slot, L = #[.val (.long l0), .second, .val (.long l1), .second, .val (.long l2), .second, .val (.long u0), .second, .val (.long u1), .second, .val (.int sel), .val (.int mm), .val (.int (1 : Int32)), .val (.int (1 : Int32)), .val (.int (1 : Int32)), .val (.int (1 : Int32)), .val (.long u0), .second, .val (.long u1), .second, .val (.long v2), .second, .val (.long v3), .second, .val (.int (4 : Int32)), .val (.ref ad1183), .val (.ref ad1187), .val (.int (4 : Int32)), .val (.long l3), .second, .val (.ref ad1225), .val (.ref ob), .val (.long e0q), .second, .val (.long e1q), .second, .val (.long e2q), .second, .val (.long e3q), .second] := ⟨_, rfl⟩
          refine own_up (S' := T1248.setTop (mkF m 342 La1258 [])) (fun t stp => XT.lstore X1248.here hx rfl (hb hby at_340) rfl (l' := La1258) (by rw [hLa1256, hLa1258]; rfl) stp) ?_
          refine own_up (S' := T1248.setTop (mkF m 344 La1258 [(.ref ad1225)])) (fun t stp => XS.aload X1248.here hx rfl (hb hby at_342) (by rw [hLa1258]; rfl) rfl stp) ?_
          refine own_len X1248 hx hZ rfl Tk1248 (4 : Int32) (hb hby at_344) (rfl) rfl rfl (g' := (mkF m 345 La1258 [(.int (4 : Int32))])) rfl ?_
          refine own_up (S' := T1248.setTop (mkF m 346 La1258 [(.int (4 : Int32)), (.int (4 : Int32))])) (fun t stp => XT.iconstV X1248.here hx rfl (4 : Int32) (hb hby at_345) rfl stp) ?_
          have hc346_1259 : (4 : Int32) = (4 : Int32) := rfl
          refine own_up (S' := T1248.setTop (mkF m 349 La1258 [])) (fun t stp => XS.icmpNo X1248.here hx rfl (hb hby at_346) rfl (XT.ii_ne_f hc346_1259) stp) ?_
          refine own_up (S' := T1248.setTop (mkF m 351 La1258 [(.ref ad1225)])) (fun t stp => XS.aload X1248.here hx rfl (hb hby at_349) (by rw [hLa1258]; rfl) rfl stp) ?_
          refine own_up (S' := T1248.setTop (mkF m 352 La1258 [(.int (0 : Int32)), (.ref ad1225)])) (fun t stp => XT.iconstV X1248.here hx rfl (0 : Int32) (hb hby at_351) rfl stp) ?_
          refine own_ldj X1248 hx hZ rfl Tk1248 (v := (.long (l0 - u0))) 0 (hb hby at_352) (rfl) (rfl) rfl rfl (g' := (mkF m 353 La1258 [(.long (l0 - u0))])) rfl ?_
          refine own_up (S' := T1248.setTop (mkF m 355 La1258 [(.long e0q), (.long (l0 - u0))])) (fun t stp => XT.lload X1248.here hx rfl (hb hby at_353) (by rw [hLa1258]; rfl) stp) ?_
          refine own_up (S' := T1248.setTop (mkF m 356 La1258 [(.int (XT.cmpL (l0 - u0) e0q))])) (fun t stp => XT.lcmp X1248.here hx rfl (hb hby at_355) rfl stp) ?_
          have hc356_1260 : (l0 - u0) = e0q := h_e0q.symm
          have ihc356_1260 : (l0 - u0).toInt = e0q.toInt := own_leq hc356_1260
          refine own_up (S' := T1248.setTop (mkF m 359 La1258 [])) (fun t stp => XS.ifNo X1248.here hx rfl (hb hby at_356) rfl (XT.ll_ne_f hc356_1260) stp) ?_
          refine own_up (S' := T1248.setTop (mkF m 361 La1258 [(.ref ad1225)])) (fun t stp => XS.aload X1248.here hx rfl (hb hby at_359) (by rw [hLa1258]; rfl) rfl stp) ?_
          refine own_up (S' := T1248.setTop (mkF m 362 La1258 [(.int (1 : Int32)), (.ref ad1225)])) (fun t stp => XT.iconstV X1248.here hx rfl (1 : Int32) (hb hby at_361) rfl stp) ?_
          refine own_ldj X1248 hx hZ rfl Tk1248 (v := (.long (l1 - u1))) 1 (hb hby at_362) (rfl) (rfl) rfl rfl (g' := (mkF m 363 La1258 [(.long (l1 - u1))])) rfl ?_
          refine own_up (S' := T1248.setTop (mkF m 365 La1258 [(.long e1q), (.long (l1 - u1))])) (fun t stp => XT.lload X1248.here hx rfl (hb hby at_363) (by rw [hLa1258]; rfl) stp) ?_
          refine own_up (S' := T1248.setTop (mkF m 366 La1258 [(.int (XT.cmpL (l1 - u1) e1q))])) (fun t stp => XT.lcmp X1248.here hx rfl (hb hby at_365) rfl stp) ?_
          have hc366_1261 : (l1 - u1) = e1q := h_e1q.symm
          have ihc366_1261 : (l1 - u1).toInt = e1q.toInt := own_leq hc366_1261
          refine own_up (S' := T1248.setTop (mkF m 369 La1258 [])) (fun t stp => XS.ifNo X1248.here hx rfl (hb hby at_366) rfl (XT.ll_ne_f hc366_1261) stp) ?_
          refine own_up (S' := T1248.setTop (mkF m 371 La1258 [(.ref ad1225)])) (fun t stp => XS.aload X1248.here hx rfl (hb hby at_369) (by rw [hLa1258]; rfl) rfl stp) ?_
          refine own_up (S' := T1248.setTop (mkF m 372 La1258 [(.int (2 : Int32)), (.ref ad1225)])) (fun t stp => XT.iconstV X1248.here hx rfl (2 : Int32) (hb hby at_371) rfl stp) ?_
          refine own_ldj X1248 hx hZ rfl Tk1248 (v := (.long (l2 - v2))) 2 (hb hby at_372) (rfl) (rfl) rfl rfl (g' := (mkF m 373 La1258 [(.long (l2 - v2))])) rfl ?_
          refine own_up (S' := T1248.setTop (mkF m 375 La1258 [(.long e2q), (.long (l2 - v2))])) (fun t stp => XT.lload X1248.here hx rfl (hb hby at_373) (by rw [hLa1258]; rfl) stp) ?_
          refine own_up (S' := T1248.setTop (mkF m 376 La1258 [(.int (XT.cmpL (l2 - v2) e2q))])) (fun t stp => XT.lcmp X1248.here hx rfl (hb hby at_375) rfl stp) ?_
          have hc376_1262 : (l2 - v2) = e2q := h_e2q.symm
          have ihc376_1262 : (l2 - v2).toInt = e2q.toInt := own_leq hc376_1262
          refine own_up (S' := T1248.setTop (mkF m 379 La1258 [])) (fun t stp => XS.ifNo X1248.here hx rfl (hb hby at_376) rfl (XT.ll_ne_f hc376_1262) stp) ?_
          refine own_up (S' := T1248.setTop (mkF m 381 La1258 [(.ref ad1225)])) (fun t stp => XS.aload X1248.here hx rfl (hb hby at_379) (by rw [hLa1258]; rfl) rfl stp) ?_
          refine own_up (S' := T1248.setTop (mkF m 382 La1258 [(.int (3 : Int32)), (.ref ad1225)])) (fun t stp => XT.iconstV X1248.here hx rfl (3 : Int32) (hb hby at_381) rfl stp) ?_
          refine own_ldj X1248 hx hZ rfl Tk1248 (v := (.long (l3 - v3))) 3 (hb hby at_382) (rfl) (rfl) rfl rfl (g' := (mkF m 383 La1258 [(.long (l3 - v3))])) rfl ?_
          refine own_up (S' := T1248.setTop (mkF m 385 La1258 [(.long e3q), (.long (l3 - v3))])) (fun t stp => XT.lload X1248.here hx rfl (hb hby at_383) (by rw [hLa1258]; rfl) stp) ?_
          refine own_up (S' := T1248.setTop (mkF m 386 La1258 [(.int (XT.cmpL (l3 - v3) e3q))])) (fun t stp => XT.lcmp X1248.here hx rfl (hb hby at_385) rfl stp) ?_
          have hc386_1263 : (l3 - v3) = e3q := h_e3q.symm
          have ihc386_1263 : (l3 - v3).toInt = e3q.toInt := own_leq hc386_1263
          refine own_up (S' := T1248.setTop (mkF m 389 La1258 [])) (fun t stp => XS.ifNo X1248.here hx rfl (hb hby at_386) rfl (XT.ll_ne_f hc386_1263) stp) ?_
          refine own_up (S' := T1248.setTop (mkF m 390 La1258 [(.int (1 : Int32))])) (fun t stp => XT.iconstV X1248.here hx rfl (1 : Int32) (hb hby at_389) rfl stp) ?_
          refine own_up (S' := T1248.setTop (mkF m 394 La1258 [(.int (1 : Int32))])) (fun t stp => XS.goto X1248.here hx rfl (pc0 := 390) (pc' := 394) rfl (hb hby at_390) (by decide) (by decide) stp) ?_
          refine own_retN X1248 hx hlk (t := .boolean) hret (by simp) (z' := (1 : Int32)) rfl (hb hby at_394) (by decide) (by decide) ?_
          show own_Q0 Z l0 l1 l2 u0 u1 sel h0 n0 _ T1248.heap _
          exact ⟨rfl, N1248⟩
set_option maxRecDepth 65536 in
set_option maxHeartbeats 40000000 in
theorem comes_1 {Post : Tables → Env → Array Value → State → Outcome → State → Prop} (hpost : ∀ tb e args s v u, (limb_1_1.after args s (.returned v) u = true ∧ limb_1_2.after args s (.returned v) u = true ∧ True) → FrameEnd s (.returned v) u (Jvm.fieldLocs frame_1_writes args s ++ Jvm.arrayLocs frame_1_arrays args s ++ Jvm.staticLocs frame_1_statics s) 16 128 → Post tb e args s (.returned v) u) :
    ArmFor flags0 classFile x code maxLocals ret World_1 tables_1 room_1 Calls_1 rest_1 Pre_1 Post := by
  intro l hfl _ _ p e ha hc hk s m args below hf hA hF happ hP
  obtain ⟨hcalls, hrest, hpre⟩ := hP
  obtain ⟨-, -, -, hnamed, -, -, -, hat⟩ := (Spec.applies_iff hf).mp happ
  obtain ⟨hg, hn⟩ := and_e (Cond.before_iff.mp (show (Jvm.Cond.and given_1 narrow_1).before args s = true from hpre))
  obtain ⟨g0, k0⟩ := and_e hg
  obtain ⟨g1, k1⟩ := and_e k0
  obtain ⟨g2, k2⟩ := and_e k1
  obtain ⟨g3, k3⟩ := and_e k2
  obtain ⟨g4, k4⟩ := and_e k3
  obtain ⟨g5, k5⟩ := and_e k4
  obtain ⟨w0, w1, w2, w3, w4, w5, rfl⟩ : ∃ w0 w1 w2 w3 w4 w5 : Value, args = #[w0, w1, w2, w3, w4, w5] := by
    have hs : args.size = 6 := by simpa [Cond.value, given_1] using g0
    obtain ⟨L⟩ := args
    match L, hs with
    | [w0, w1, w2, w3, w4, w5], _ => exact ⟨w0, w1, w2, w3, w4, w5, rfl⟩
  have hw := fun d (hd : d ∈ tables_1) => atoms_spec (ws := Jvm.Cond.code x code maxLocals ret :: tables_1) hat d (List.mem_cons_of_mem _ hd)
  obtain ⟨i0, ei0⟩ := isL_v g1
  obtain rfl : w0 = (.long i0) := Option.some.inj ei0
  obtain ⟨i1, ei1⟩ := isL_v g2
  obtain rfl : w1 = (.long i1) := Option.some.inj ei1
  obtain ⟨i2, ei2⟩ := isL_v g3
  obtain rfl : w2 = (.long i2) := Option.some.inj ei2
  obtain ⟨i3, ei3⟩ := isL_v g4
  obtain rfl : w3 = (.long i3) := Option.some.inj ei3
  obtain ⟨i4, ei4⟩ := isL_v g5
  obtain rfl : w4 = (.long i4) := Option.some.inj ei4
  obtain ⟨i5, ei5⟩ := is_v k5
  obtain rfl : w5 = (.int i5) := Option.some.inj ei5
  obtain ⟨n, o, h1, h2, h3, _, L, rfl, ⟨rfl, N⟩, hq⟩ := rm0 l s _ hw tables_1 i0 i1 i2 i3 i4 i5 s.heap s.heap.size (Nat.le_refl _)  p e ha hc hk s m _ below hf ((Spec.applies_iff_loose hf).mp happ).1 ⟨rfl, State.Warmed39.refl s, rfl⟩ trivial
  refine ⟨n, _, h1, h2, h3, hpost _ _ _ _ _ _ ⟨Cond.after_iff.mpr rfl, Cond.after_iff.mpr (eq_i res_at (Term.int_eval (1)) rfl), trivial⟩ ⟨hq.1, hq.2.1, (hq.2.2.sift fun y hy => Or.inr (N y hy)).mono (by decide) (by decide)⟩⟩
theorem main_1_1 : Claimed_1_1 := comes_1 fun _ _ _ _ _ _ h hF => ⟨h.1, hF⟩
theorem main_1_2 : Claimed_1_2 := comes_1 fun _ _ _ _ _ _ h hF => ⟨h.2.1, hF⟩
end Jvm.Pilot.@@N@@
namespace Jvm.Pilot.@@N@@
open Jvm Jvm.ClassFile Sem Op Lib Jvm.Free Jvm.Stand Jvm.Pilot.@@N@@.Jvm.D
/-! MADE BY PROGRAM (witnessworld.py) out of the Statement's table words and the real class files: 12 classes; the members and pool entries that the words name. The judged class is class 1, her method 1. -/
namespace start1
open Jvm.ClassFile
def u (s : String) : CpInfo := .utf8 (stringToUtf16 s)
/-- a pool by its gaps: so many unusable entries, then the entry; so many at the end -/
def gap : Nat → List CpInfo → List CpInfo
  | 0, r => r
  | n + 1, r => .unusable :: gap n r
def poolList (es : List (Nat × CpInfo)) (last : Nat) : List CpInfo := es.foldr (fun e r => gap e.1 (e.2 :: r)) (gap last [])
def pool (es : List (Nat × CpInfo)) (last : Nat) : Array CpInfo := ⟨poolList es last⟩
def fileOf (pool : Array CpInfo) (this : Nat) (attrs : Array Attribute := #[]) (ms : Array MethodInfo := #[]) (fl : Nat := 33) (sup : Nat := 0) (ifs : Array Nat := #[]) (fds : Array FieldInfo := #[]) : ClassFile where
  minorVersion := 0
  majorVersion := 65
  constantPool := pool
  accessFlags := fl
  thisClass := this
  superClass := sup
  interfaces := ifs
  fields := fds
  methods := ms
  attributes := attrs
def plain (name : String) (sup : Option ClassId) : Class where
  name := name
  kind := .ordinary
  loader := none
  accessFlags := 33
  super := sup
  interfaces := #[]
  cf := none
  fields := #[]
  methods := #[]
  instanceTypes := #[]
  staticTypes := #[]
  resolved := #[]
  callSites := []
  init := .initialized
  statics := none
  mirror := none

def pool0 : Array CpInfo := pool [(5, u "<init>"), (0, u "()V"), (1, .class_ 10), (1, u "java/lang/Object")] 113

def k0c0 : Code := { maxStack := 0, maxLocals := 1, code := object_method_1_code, exceptionTable := #[], attributes := #[] }
def k0m0 : Method := { name := "<init>", desc := "()V", sig := { parameters := [], returnType := none }, accessFlags := 1, code := some k0c0 }
/-- java/lang/Object -/
def k0 : Class := { plain "java/lang/Object" none with
  accessFlags := 33
  interfaces := #[]
  cf := some (fileOf pool0 8 #[] #[{ accessFlags := 1, nameIndex := 5, descriptorIndex := 6, attributes := #[] }] 33 0 #[] #[])
  fields := #[]
  methods := #[k0m0]
  instanceTypes := #[]
  staticTypes := #[]
  resolved := Array.replicate 124 none
  statics := none }

def pool1 : Array CpInfo := pool [(2, .class_ 4), (1, u "java/lang/Object"), (0, u "<init>"), (0, u "()V"), (0, .class_ 8), (0, u "com/example/outcry/outcry/combinatorial/Bundle"), (0, .methodref 7 10), (0, .nameAndType 5 11), (0, u "([I[J)V"), (0, .methodref 7 13), (0, .nameAndType 14 15), (0, u "take"), (0, u "([J)V"), (0, .class_ 17), (0, u "com/example/outcry/outcry/combinatorial/BundleTakePinLaw"), (2, u "law"), (0, u "(JJJJJI)Z")] 7

def k1m0 : Method := { name := "<init>", desc := "()V", sig := { parameters := [], returnType := none }, accessFlags := 1, code := none }
def k1c1 : Code := { maxStack := 5, maxLocals := 40, code := code, exceptionTable := #[], attributes := #[] }
def k1m1 : Method := { name := "law", desc := "(JJJJJI)Z", sig := { parameters := [.long, .long, .long, .long, .long, .int], returnType := some .boolean }, accessFlags := 9, code := some k1c1 }
/-- com/example/outcry/outcry/combinatorial/BundleTakePinLaw -/
def k1 : Class := { plain "com/example/outcry/outcry/combinatorial/BundleTakePinLaw" (some 0) with
  accessFlags := 49
  interfaces := #[]
  cf := some (fileOf pool1 16 #[] #[{ accessFlags := 1, nameIndex := 5, descriptorIndex := 6, attributes := #[] }, { accessFlags := 9, nameIndex := 20, descriptorIndex := 21, attributes := #[] }] 49 2 #[] #[])
  fields := #[]
  methods := #[k1m0, k1m1]
  instanceTypes := #[]
  staticTypes := #[]
  resolved := Array.replicate 29 none
  statics := none }

def pool2 : Array CpInfo := pool [(1, .methodref 2 3), (0, .class_ 4), (0, .nameAndType 5 6), (0, u "java/lang/Object"), (0, u "<init>"), (0, u "()V"), (0, .class_ 8), (0, u "java/lang/Record")] 13

def k2c0 : Code := { maxStack := 1, maxLocals := 1, code := jdk_30_method_1_code, exceptionTable := #[], attributes := #[] }
def k2m0 : Method := { name := "<init>", desc := "()V", sig := { parameters := [], returnType := none }, accessFlags := 4, code := some k2c0 }
/-- java/lang/Record -/
def k2 : Class := { plain "java/lang/Record" (some 0) with
  accessFlags := 1057
  interfaces := #[]
  cf := some (fileOf pool2 7 #[] #[{ accessFlags := 4, nameIndex := 5, descriptorIndex := 6, attributes := #[] }] 1057 2 #[] #[])
  fields := #[]
  methods := #[k2m0]
  instanceTypes := #[]
  staticTypes := #[]
  resolved := Array.replicate 22 none
  statics := none }

def pool3 : Array CpInfo := pool [(1, .methodref 2 3), (0, .class_ 4), (0, .nameAndType 5 6), (0, u "java/lang/Record"), (0, u "<init>"), (0, u "()V"), (0, .fieldref 8 9), (0, .class_ 10), (0, .nameAndType 11 12), (0, u "com/example/outcry/outcry/combinatorial/Bundle"), (0, u "resources"), (0, u "[I"), (0, .fieldref 8 14), (0, .nameAndType 15 16), (0, u "units"), (0, u "[J"), (48, u "([I[J)V"), (11, u "take"), (0, u "([J)V")] 75

def k3c0 : Code := { maxStack := 2, maxLocals := 3, code := prog_26_method_1_code, exceptionTable := #[], attributes := #[] }
def k3m0 : Method := { name := "<init>", desc := "([I[J)V", sig := { parameters := [(.array .int), (.array .long)], returnType := none }, accessFlags := 0, code := some k3c0 }
def k3c1 : Code := { maxStack := 6, maxLocals := 3, code := prog_26_method_4_code, exceptionTable := #[], attributes := #[] }
def k3m1 : Method := { name := "take", desc := "([J)V", sig := { parameters := [(.array .long)], returnType := none }, accessFlags := 0, code := some k3c1 }
/-- com/example/outcry/outcry/combinatorial/Bundle -/
def k3 : Class := { plain "com/example/outcry/outcry/combinatorial/Bundle" (some 2) with
  accessFlags := 48
  interfaces := #[]
  cf := some (fileOf pool3 8 #[] #[{ accessFlags := 0, nameIndex := 5, descriptorIndex := 65, attributes := #[] }, { accessFlags := 0, nameIndex := 77, descriptorIndex := 78, attributes := #[] }] 48 2 #[] #[{ accessFlags := 18, nameIndex := 11, descriptorIndex := 12, attributes := #[] }, { accessFlags := 18, nameIndex := 15, descriptorIndex := 16, attributes := #[] }])
  fields := #[{ name := "resources", type := (.array .int), accessFlags := 18, slot := 0, constantValue := 0 }, { name := "units", type := (.array .long), accessFlags := 18, slot := 1, constantValue := 0 }]
  methods := #[k3m0, k3m1]
  instanceTypes := #[(.array .int), (.array .long)]
  staticTypes := #[]
  resolved := Array.replicate 154 none
  statics := none }

def pool4 : Array CpInfo := pool [(1, u "java/lang/Cloneable"), (0, .class_ 1), (0, u "java/lang/Object"), (0, .class_ 3)] 3

/-- java/lang/Cloneable -/
def k4 : Class := { plain "java/lang/Cloneable" (some 0) with
  accessFlags := 1537
  interfaces := #[]
  cf := some (fileOf pool4 2 #[] #[] 1537 4 #[] #[])
  fields := #[]
  methods := #[]
  instanceTypes := #[]
  staticTypes := #[]
  resolved := Array.replicate 8 none
  statics := none }

def pool5 : Array CpInfo := pool [(1, u "java/io/Serializable"), (0, .class_ 1), (0, u "java/lang/Object"), (0, .class_ 3)] 3

/-- java/io/Serializable -/
def k5 : Class := { plain "java/io/Serializable" (some 0) with
  accessFlags := 1537
  interfaces := #[]
  cf := some (fileOf pool5 2 #[] #[] 1537 4 #[] #[])
  fields := #[]
  methods := #[]
  instanceTypes := #[]
  staticTypes := #[]
  resolved := Array.replicate 8 none
  statics := none }

/-- the primitive byte -/
def k6 : Class := { plain "byte" none with kind := .primitive 'B', accessFlags := 0x411 }
/-- [B -/
def k7 : Class := { plain "[B" (some 0) with kind := .array 6 .byte, interfaces := #[4, 5], accessFlags := 1041 }

/-- the primitive int -/
def k8 : Class := { plain "int" none with kind := .primitive 'I', accessFlags := 0x411 }
/-- [I -/
def k9 : Class := { plain "[I" (some 0) with kind := .array 8 .int, interfaces := #[4, 5], accessFlags := 1041 }

/-- the primitive long -/
def k10 : Class := { plain "long" none with kind := .primitive 'J', accessFlags := 0x411 }
/-- [J -/
def k11 : Class := { plain "[J" (some 0) with kind := .array 10 .long, interfaces := #[4, 5], accessFlags := 1041 }

def heap : Heap := #[]
def classes : Array Class := #[k0, k1, k2, k3, k4, k5, k6, k7, k8, k9, k10, k11]
def interned : List (Array UInt16 × Addr) := []
def slotsUsed : Nat := 0
def theMethod : MethodId := ⟨1, 1⟩
def args0 : Array Value := #[.long 5, .long 6, .long 7, .long 3, .long 1, .int 11]
def aboutOver (below : List Frame) : State where
  vm := { classes := classes, interned := interned.toArray }
  heap := heap
  slotsUsed := slotsUsed
  threads := #[{ frames := .invoking theMethod args0 :: below }]
def below0 : List Frame := [.native { method := ⟨0, 0⟩, args := #[] }]
def about1 : State := aboutOver below0
def p0 : Program := .bare "" "" ""
def e0 : Env := launch0.env 0 0 0
theorem w_frames : about1.frames = Frame.invoking theMethod args0 :: below0 := rfl
set_option maxRecDepth 65536 in
theorem w_args : argsFit about1.vm theMethod args0 = true := by decide +kernel
set_option maxRecDepth 65536 in
theorem w_heap : heapFits about1 = true := by decide +kernel
set_option maxRecDepth 65536 in
theorem w_runnable : about1.curStatus? = some .runnable := by decide +kernel
set_option maxRecDepth 65536 in
theorem w_alone : about1.alone = true := by decide +kernel
set_option maxRecDepth 65536 in
theorem w_named : about1.methodNamed? x = some theMethod := by decide +kernel
set_option maxRecDepth 65536 in
theorem w_hears : about1.hears theMethod below0 = true := by decide +kernel
set_option maxRecDepth 65536 in
theorem w_ripe : about1.ripe theMethod args0 below0 = true := by decide +kernel
theorem w_running : about1.status = .running := rfl
set_option maxRecDepth 65536 in
theorem w_room : about1.hasRoom e0.platform room_1 = true :=
  launch0.hasRoom_least _ room_1 (by decide +kernel) (by decide +kernel) (by decide +kernel) (by decide +kernel) (by decide +kernel) (by decide +kernel)
theorem allAtoms_all (ts : List Jvm.Cond) (a : Array Jvm.Value) (st : Jvm.State) : (allAtoms ts).before a st = ts.all (fun c => c.before a st) := by
  induction ts with
  | nil => rfl
  | cons c t ih =>
    show (Jvm.Cond.and c (allAtoms t)).before a st = _
    rw [Jvm.Cond.before_and, ih, List.all_cons]
def words1 : List Jvm.Cond := Jvm.Cond.code x code maxLocals ret :: tables_1
/-- a 'code' word, met by the world's own term for the bytes: nothing is compared byte by byte -/
theorem code_word {y : MethodName} {bytes : ByteArray} {mx : Nat} {rt : Option FieldType} {a : Array Value} {s : State} {m : MethodId} {meth : Method} {c : Code} (h1 : s.methodNamed? y = some m) (h2 : s.vm.method? m = some meth) (h3 : meth.code = some c) (h4 : c.code = bytes)
    (h5 : (c.maxLocals == mx && c.exceptionTable.isEmpty && decide (c.maxStack ≤ mostOperands) && decide (meth.sig.returnType = rt) && !meth.locks && decide (parseMethodDescriptor y.desc = some meth.sig)) = true) : (Jvm.Cond.code y bytes mx rt).before a s = true := by
  simp only [Bool.and_eq_true, beq_iff_eq, Bool.not_eq_true', decide_eq_true_eq] at h5
  obtain ⟨⟨⟨⟨⟨g1, g2⟩, g3⟩, g4⟩, g5⟩, g6⟩ := h5
  simp [Cond.before, Cond.holds, Cond.value, h1, h2, h3, h4, g1, g2, g3, g4, g5, g6]
def isCode : Jvm.Cond → Bool
  | .code _ _ _ _ => true
  | _ => false
theorem all_split {L : List Jvm.Cond} {P : Jvm.Cond → Bool} (h1 : L.all (fun c => isCode c || P c) = true) (h2 : ∀ c ∈ L.filter isCode, P c = true) : L.all P = true := by
  refine List.all_eq_true.mpr fun c hc => ?_
  have h := List.all_eq_true.mp h1 c hc
  rcases Bool.eq_false_or_eq_true (isCode c) with hi | hi
  · exact h2 c (List.mem_filter.mpr ⟨hc, hi⟩)
  · simpa [hi] using h
set_option maxRecDepth 65536 in
theorem w_c0 : (Jvm.Cond.code x code maxLocals ret).before args0 about1 = true := code_word (m := ⟨1, 1⟩) (meth := k1m1) (c := k1c1) (by decide +kernel) rfl rfl rfl (by decide +kernel)
set_option maxRecDepth 65536 in
theorem w_c1 : (Jvm.Cond.code ({ cls := "com/example/outcry/outcry/combinatorial/Bundle", name := "<init>", desc := "([I[J)V" } : Jvm.MethodName) prog_26_method_1_code (3 : Nat) (Option.none : Option Jvm.ClassFile.FieldType)).before args0 about1 = true := code_word (m := ⟨3, 0⟩) (meth := k3m0) (c := k3c0) (by decide +kernel) rfl rfl rfl (by decide +kernel)
set_option maxRecDepth 65536 in
theorem w_c2 : (Jvm.Cond.code ({ cls := "java/lang/Record", name := "<init>", desc := "()V" } : Jvm.MethodName) jdk_30_method_1_code (1 : Nat) (Option.none : Option Jvm.ClassFile.FieldType)).before args0 about1 = true := code_word (m := ⟨2, 0⟩) (meth := k2m0) (c := k2c0) (by decide +kernel) rfl rfl rfl (by decide +kernel)
set_option maxRecDepth 65536 in
theorem w_c3 : (Jvm.Cond.code ({ cls := "java/lang/Object", name := "<init>", desc := "()V" } : Jvm.MethodName) object_method_1_code (1 : Nat) (Option.none : Option Jvm.ClassFile.FieldType)).before args0 about1 = true := code_word (m := ⟨0, 0⟩) (meth := k0m0) (c := k0c0) (by decide +kernel) rfl rfl rfl (by decide +kernel)
set_option maxRecDepth 65536 in
theorem w_c4 : (Jvm.Cond.code ({ cls := "com/example/outcry/outcry/combinatorial/Bundle", name := "take", desc := "([J)V" } : Jvm.MethodName) prog_26_method_4_code (3 : Nat) (Option.none : Option Jvm.ClassFile.FieldType)).before args0 about1 = true := code_word (m := ⟨3, 1⟩) (meth := k3m1) (c := k3c1) (by decide +kernel) rfl rfl rfl (by decide +kernel)
def codes1 : List Jvm.Cond := [Jvm.Cond.code x code maxLocals ret, Jvm.Cond.code ({ cls := "com/example/outcry/outcry/combinatorial/Bundle", name := "<init>", desc := "([I[J)V" } : Jvm.MethodName) prog_26_method_1_code (3 : Nat) (Option.none : Option Jvm.ClassFile.FieldType), Jvm.Cond.code ({ cls := "java/lang/Record", name := "<init>", desc := "()V" } : Jvm.MethodName) jdk_30_method_1_code (1 : Nat) (Option.none : Option Jvm.ClassFile.FieldType), Jvm.Cond.code ({ cls := "java/lang/Object", name := "<init>", desc := "()V" } : Jvm.MethodName) object_method_1_code (1 : Nat) (Option.none : Option Jvm.ClassFile.FieldType), Jvm.Cond.code ({ cls := "com/example/outcry/outcry/combinatorial/Bundle", name := "take", desc := "([J)V" } : Jvm.MethodName) prog_26_method_4_code (3 : Nat) (Option.none : Option Jvm.ClassFile.FieldType)]
set_option maxRecDepth 65536 in
theorem codes_eq : words1.filter isCode = codes1 := rfl
theorem w_codes : ∀ c ∈ words1.filter isCode, c.before args0 about1 = true := by
  rw [codes_eq]
  intro c hc
  simp only [codes1, List.mem_cons, List.not_mem_nil, or_false] at hc
  rcases hc with rfl | rfl | rfl | rfl | rfl
  · exact w_c0
  · exact w_c1
  · exact w_c2
  · exact w_c3
  · exact w_c4
set_option maxRecDepth 65536 in
theorem w_t1 : (words1.take 24).all (fun c => isCode c || c.before args0 about1) = true := by decide +kernel
set_option maxRecDepth 65536 in
theorem w_t2 : (words1.drop 24).all (fun c => isCode c || c.before args0 about1) = true := by decide +kernel
theorem w_tables : (allAtoms (Jvm.Cond.code x code maxLocals ret :: tables_1)).before args0 about1 = true := by
  rw [allAtoms_all]
  show words1.all (fun c => c.before args0 about1) = true
  refine all_split ?_ w_codes
  rw [← List.take_append_drop 24 words1, List.all_append, w_t1, w_t2]
  rfl
set_option maxRecDepth 65536 in
theorem w_case : (Jvm.Cond.and given_1 narrow_1).before args0 about1 = true := by decide +kernel
theorem w_applies : (headSpec (Jvm.Cond.code x code maxLocals ret :: tables_1) room_1).applies x e0.platform about1 = true :=
  (Spec.applies_iff w_frames).mpr ⟨w_running, w_runnable, w_alone, w_named, w_hears, w_ripe, w_room, w_tables⟩
theorem atStart : AtStart classFile x code maxLocals ret World_1 tables_1 room_1 Calls_1 rest_1 Pre_1 launch0 p0 e0 about1 theMethod args0 below0 :=
  ⟨lists_1, trivial, launch0.admits_env _ _ _, launch0.least_env, fairChoices_fair.cas, fairChoices_fair.clock, w_frames, w_args, w_heap, w_applies, trivial, trivial, w_case⟩
end start1
theorem witness_1 : WitnessClaimed_1 := ⟨start1.p0, start1.e0, start1.about1, start1.theMethod, start1.args0, start1.below0, start1.atStart⟩
end Jvm.Pilot.@@N@@
