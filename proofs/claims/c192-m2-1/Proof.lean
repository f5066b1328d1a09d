import JvmDerived
import JvmDerived.Pilot.@@N@@Statement
import JvmDerived.Pilot.@@N@@Code
set_option linter.unusedVariables false
set_option linter.unusedSimpArgs false
namespace Jvm.Pilot.@@N@@
open Jvm Jvm.ClassFile Sem Op Lib Jvm.Free Jvm.Stand Jvm.LawKit Jvm.RoadKit Bundle Jvm.Pilot.@@N@@.Jvm.D
section Own
/-! comparisons, said of the integers -/
theorem own_ieq {x y : Int32} (h : x = y) : x.toInt = y.toInt := by rw [h]
theorem own_ine {x y : Int32} (h : ¬ (x = y)) : x.toInt ≠ y.toInt := fun q => h (Int32.toInt_inj.mp q)
theorem own_ilt {x y : Int32} (h : x < y) : x.toInt < y.toInt := Int32.lt_iff_toInt_lt.mp h
theorem own_inl {x y : Int32} (h : ¬ (x < y)) : y.toInt ≤ x.toInt := Int.not_lt.mp fun q => h (Int32.lt_iff_toInt_lt.mpr q)
theorem own_ieq_of {x y : Int32} (h : x.toInt = y.toInt) : x = y := Int32.toInt_inj.mp h
theorem own_ine_of {x y : Int32} (h : x.toInt ≠ y.toInt) : ¬ (x = y) := fun q => h (by rw [q])
theorem own_ilt_of {x y : Int32} (h : x.toInt < y.toInt) : x < y := Int32.lt_iff_toInt_lt.mpr h
theorem own_inl_of {x y : Int32} (h : y.toInt ≤ x.toInt) : ¬ (x < y) := fun q => Int.not_lt.mpr h (Int32.lt_iff_toInt_lt.mp q)
theorem own_leq {x y : Int64} (h : x = y) : x.toInt = y.toInt := by rw [h]
theorem own_lne {x y : Int64} (h : ¬ (x = y)) : x.toInt ≠ y.toInt := fun q => h (Int64.toInt_inj.mp q)
theorem own_llt {x y : Int64} (h : x < y) : x.toInt < y.toInt := Int64.lt_iff_toInt_lt.mp h
theorem own_lnl {x y : Int64} (h : ¬ (x < y)) : y.toInt ≤ x.toInt := Int.not_lt.mp fun q => h (Int64.lt_iff_toInt_lt.mpr q)
theorem own_leq_of {x y : Int64} (h : x.toInt = y.toInt) : x = y := Int64.toInt_inj.mp h
theorem own_lne_of {x y : Int64} (h : x.toInt ≠ y.toInt) : ¬ (x = y) := fun q => h (by rw [q])
theorem own_llt_of {x y : Int64} (h : x.toInt < y.toInt) : x < y := Int64.lt_iff_toInt_lt.mpr h
theorem own_lnl_of {x y : Int64} (h : y.toInt ≤ x.toInt) : ¬ (x < y) := fun q => Int.not_lt.mpr h (Int64.lt_iff_toInt_lt.mp q)
variable {p : Program} {l : Launch} {e : Env} {R : Room} {s : State} {m : MethodId} {args : Array Value} {below : List Frame} {meth : Method} {c : Code} {T : State} {locs : List Loc} {cells slots : Nat} {Z : State} {a0 : Array Value} {h : Heap} {Q : Option Value → Heap → List Loc → Prop} {kc ks : Nat} {S S' s0 : State} {h' : Heap}
/-- from S the invocation comes back; Q holds of what it returned, of the heap and of the places written -/
def own_Ends (p : Program) (e : Env) (below : List Frame) (s0 : State) (Q : Option Value → Heap → List Loc → Prop) (kc ks : Nat) (S : State) : Prop :=
  ∃ s₂ o, Steps p.tables e below S s₂ ∧ s₂.status = .running ∧ Ended s₂ below o ∧ ∃ v L, o = .returned v ∧ Q v s₂.heap L ∧ ReturnedEndW s0 o s₂ L kc ks
def own_Sn (s0 s : State) (h : Heap) : Prop := ∃ vm n, s = s0.setVm vm ∧ s0.Since vm n ∧ n ≤ h.size
theorem own_Sn_refl (s : State) (h : Heap) : own_Sn s s h := ⟨s.vm, 0, rfl, (State.WarmedH.refl s).since 0, Nat.zero_le _⟩
theorem own_Sn_le (hN : own_Sn s0 s h) (q : h.size ≤ h'.size) : own_Sn s0 s h' := by
  obtain ⟨vm, n, h1, h2, h3⟩ := hN
  exact ⟨vm, n, h1, h2, Nat.le_trans h3 q⟩
theorem own_up (st : ∀ t, Steps p.tables e below S' t → Steps p.tables e below S t) (k : own_Ends p e below s0 Q kc ks S') : own_Ends p e below s0 Q kc ks S := by
  obtain ⟨t, o, h1, h2⟩ := k
  exact ⟨t, o, st t h1, h2⟩
theorem own_met {y : MethodName} {code : ByteArray} {maxL : Nat} {ret : Option FieldType} {rm : Room} {as' : Array Value} {ws : List Jvm.Cond} {L0 : Array Slot}
    (hpl : plainFor y = true) (hef : ∀ m, entryFrame m as' maxL = mkF m 0 L0 [])
    (body : ∀ (p : Program) (e : Env) (s : State) (m : MethodId) (below : List Frame) (meth : Method) (c : Code) (T : State), p.tables.exec = Jvm.exec → c.code = code → c.maxLocals = maxL → s.vm.findClass y.cls = some m.cls → meth.name = y.name → meth.sig.returnType = ret → meth.locks = false → Z.Warmed39 s.vm → T.heap = h → own_Sn s s h → Stand p l e rm s m as' below meth c T [] 0 0 → own_Ends p e below s Q rm.cells rm.slots (T.setTop (mkF m 0 L0 []))) :
    MetFree l y (head1 (Jvm.Cond.code y code maxL ret :: ws) rm) (fun a U => a = as' ∧ Z.Warmed39 U.vm ∧ U.heap = h) (fun _ _ _ _ _ => True) (fun _ U o U' => ∃ v L, o = .returned v ∧ Q v U'.heap L ∧ ReturnedEndW U o U' L rm.cells rm.slots) := by
  refine MetFree.of_bodySF hpl hisR ?_
  intro p e s m args below meth c s₁ Bd hml hP hK
  obtain ⟨rfl, hZ, hh⟩ := hP
  rw [hef m]
  exact body p e s m below meth c s₁ Bd.exec Bd.bytes hml (findClass_of_methodNamed Bd.named) (name_of_methodNamed Bd.named Bd.method).1 Bd.returns (BodyLoose.notSynchronized Bd) hZ (by rw [← hh, Bd.state]; rfl) (own_Sn_refl _ _) (Stand.of_body Bd)
theorem own_metI {y : MethodName} {code : ByteArray} {maxL : Nat} {ret : Option FieldType} {rm : Room} {as' : Array Value} {ws : List Jvm.Cond} {L0 : Array Slot}
    (hpl : plainFor y = true) (hef : ∀ m, entryFrame m as' maxL = mkF m 0 L0 [])
    (body : ∀ (p : Program) (e : Env) (s : State) (m : MethodId) (below : List Frame) (meth : Method) (c : Code) (T : State), p.tables.exec = Jvm.exec → c.code = code → c.maxLocals = maxL → s.vm.findClass y.cls = some m.cls → meth.name = y.name → meth.sig.returnType = ret → meth.locks = false → Z.Warmed39 s.vm → T.heap = h → s.heap = h → IB Z s.vm [] → own_Sn s s h → Stand p l e rm s m as' below meth c T [] 0 0 → own_Ends p e below s Q rm.cells rm.slots (T.setTop (mkF m 0 L0 []))) :
    MetFree l y (head1 (Jvm.Cond.code y code maxL ret :: ws) rm) (fun a U => a = as' ∧ Z.Warmed39 U.vm ∧ U.heap = h ∧ IB Z U.vm []) (fun _ _ _ _ _ => True) (fun _ U o U' => ∃ v L, o = .returned v ∧ Q v U'.heap L ∧ ReturnedEndW U o U' L rm.cells rm.slots) := by
  refine MetFree.of_bodySF hpl hisR ?_
  intro p e s m args below meth c s₁ Bd hml hP hK
  obtain ⟨rfl, hZ, hh, hI⟩ := hP
  rw [hef m]
  exact body p e s m below meth c s₁ Bd.exec Bd.bytes hml (findClass_of_methodNamed Bd.named) (name_of_methodNamed Bd.named Bd.method).1 Bd.returns (BodyLoose.notSynchronized Bd) hZ (by rw [← hh, Bd.state]; rfl) hh hI (own_Sn_refl _ _) (Stand.of_body Bd)
/-! returns -/
theorem own_iret (X : Stand p l e R s m args below meth c T locs cells slots) (hx : p.tables.exec = Jvm.exec) {pc : Nat} {Ls : Array Slot} {z : Int32} {rest : List Value} (hret : meth.sig.returnType = some .int) (hd : decode c.code pc = .ok (.ireturn, 1)) {fs : List Frame}
    (hl : ∀ (f : JFrame) (acts : List Action), f.method = m → f.locked = none → f.entered = [] → (doReturn e (T.setTop f) acts (some (.int z))).1 = T.setFrames fs) : Steps p.tables e below (T.setTop (mkF m pc Ls (.int z :: rest))) (T.setFrames fs) :=
  retOut X hx hret rfl (Or.inl ⟨rfl, Or.inl rfl, _, rfl⟩) hd hl
theorem own_retI (X : Stand p l e R s m args below meth c T locs cells slots) (hx : p.tables.exec = Jvm.exec) (hlk : meth.locks = false) (hret : meth.sig.returnType = some .int) {pc : Nat} {Ls : Array Slot} {z : Int32} {rest : List Value} (hd : decode c.code pc = .ok (.ireturn, 1)) (hN : own_Sn s0 s h) (eT : T.heap = h) (hc : cells ≤ kc) (hs : slots ≤ ks) (hq : Q (some (.int z)) T.heap locs) :
    own_Ends p e below s0 Q kc ks (T.setTop (mkF m pc Ls (.int z :: rest))) := by
  obtain ⟨vm0, n0, rfl, hS, hnn⟩ := hN
  obtain ⟨fs, hr, hrun, hended, hE1, hE2, hE3, hE4⟩ := X.leaveW hS (by rw [eT]; exact hnn) (v := some (.int z)) (fun q => by rw [hret] at q; cases q) hlk
  exact ⟨_, _, own_iret X hx hret hd hr, hrun, hended, _, _, rfl, hq, ⟨_, rfl⟩, hE2, hE3, hE4.mono hc hs⟩
theorem own_retN (X : Stand p l e R s m args below meth c T locs cells slots) (hx : p.tables.exec = Jvm.exec) (hlk : meth.locks = false) {t : FieldType} (hret : meth.sig.returnType = some t) (ht : t = .boolean ∨ t = .byte ∨ t = .char ∨ t = .short) {pc : Nat} {Ls : Array Slot} {z z' : Int32} {rest : List Value} (hn : nar t z = z') (hd : decode c.code pc = .ok (.ireturn, 1)) (hN : own_Sn s0 s h) (eT : T.heap = h) (hc : cells ≤ kc) (hs : slots ≤ ks) (hq : Q (some (.int z')) T.heap locs) :
    own_Ends p e below s0 Q kc ks (T.setTop (mkF m pc Ls (.int z :: rest))) := by
  subst hn
  obtain ⟨vm0, n0, rfl, hS, hnn⟩ := hN
  obtain ⟨fs, hr, hrun, hended, hE1, hE2, hE3, hE4⟩ := X.leaveW hS (by rw [eT]; exact hnn) (v := some (.int (nar t z))) (fun q => by rw [hret] at q; cases q) hlk
  exact ⟨_, _, retN X hx hret ht hd hr, hrun, hended, _, _, rfl, hq, ⟨_, rfl⟩, hE2, hE3, hE4.mono hc hs⟩
theorem own_retL (X : Stand p l e R s m args below meth c T locs cells slots) (hx : p.tables.exec = Jvm.exec) (hlk : meth.locks = false) (hret : meth.sig.returnType = some .long) {pc : Nat} {Ls : Array Slot} {z : Int64} {rest : List Value} (hd : decode c.code pc = .ok (.lreturn, 1)) (hN : own_Sn s0 s h) (eT : T.heap = h) (hc : cells ≤ kc) (hs : slots ≤ ks) (hq : Q (some (.long z)) T.heap locs) :
    own_Ends p e below s0 Q kc ks (T.setTop (mkF m pc Ls (.long z :: rest))) := by
  obtain ⟨vm0, n0, rfl, hS, hnn⟩ := hN
  obtain ⟨fs, hr, hrun, hended, hE1, hE2, hE3, hE4⟩ := X.leaveW hS (by rw [eT]; exact hnn) (v := some (.long z)) (fun q => by rw [hret] at q; cases q) hlk
  exact ⟨_, _, retOut X hx hret rfl (Or.inr (Or.inl ⟨rfl, rfl, _, rfl⟩)) hd hr, hrun, hended, _, _, rfl, hq, ⟨_, rfl⟩, hE2, hE3, hE4.mono hc hs⟩
theorem own_retA (X : Stand p l e R s m args below meth c T locs cells slots) (hx : p.tables.exec = Jvm.exec) (hlk : meth.locks = false) {t : FieldType} (hret : meth.sig.returnType = some t) (ht : t.isReference = true) {pc : Nat} {Ls : Array Slot} {a : Addr} {rest : List Value} (hn : narrow t (.ref a) = .ref a) (hd : decode c.code pc = .ok (.areturn, 1)) (hN : own_Sn s0 s h) (eT : T.heap = h) (hc : cells ≤ kc) (hs : slots ≤ ks) (hq : Q (some (.ref a)) T.heap locs) :
    own_Ends p e below s0 Q kc ks (T.setTop (mkF m pc Ls (.ref a :: rest))) := by
  obtain ⟨vm0, n0, rfl, hS, hnn⟩ := hN
  obtain ⟨fs, hr, hrun, hended, hE1, hE2, hE3, hE4⟩ := X.leaveW hS (by rw [eT]; exact hnn) (v := some (.ref a)) (fun q => by rw [hret] at q; cases q) hlk
  exact ⟨_, _, retOut X hx hret hn (Or.inr (Or.inr (Or.inr (Or.inr ⟨rfl, ht, rfl⟩)))) hd hr, hrun, hended, _, _, rfl, hq, ⟨_, rfl⟩, hE2, hE3, hE4.mono hc hs⟩
theorem own_retV (X : Stand p l e R s m args below meth c T locs cells slots) (hx : p.tables.exec = Jvm.exec) (hlk : meth.locks = false) (hret : meth.sig.returnType = none) {pc : Nat} {Ls : Array Slot} (hd : decode c.code pc = .ok (.return_, 1)) (hN : own_Sn s0 s h) (eT : T.heap = h) (hc : cells ≤ kc) (hs : slots ≤ ks) (hq : Q none T.heap locs) :
    own_Ends p e below s0 Q kc ks (T.setTop (mkF m pc Ls [])) := by
  obtain ⟨vm0, n0, rfl, hS, hnn⟩ := hN
  obtain ⟨fs, hr, hrun, hended, hE1, hE2, hE3, hE4⟩ := X.leaveW hS (by rw [eT]; exact hnn) (v := none) (fun _ => rfl) hlk
  exact ⟨_, _, X.returnOut hx hret hd hr, hrun, hended, _, _, rfl, hq, ⟨_, rfl⟩, hE2, hE3, hE4.mono hc hs⟩
/-! calls -/
theorem own_callS (X : Stand p l e R s m args below meth c T locs cells slots) (hx : p.tables.exec = Jvm.exec) (hZ : Z.Warmed39 s.vm) {own : String} {index : Nat} {y : MethodName} {bytes : ByteArray} {maxL : Nat} {ret : Option FieldType} {rm : Room} {as' : Array Value} {Qc : Option Value → Heap → List Loc → Prop}
    (hown : s.vm.findClass own = some m.cls) (w1 : (Jvm.Cond.methodLink own index y).before a0 Z = true) (w2 : (Jvm.Cond.static y).before a0 Z = true) (w3 : (Jvm.Cond.initialized y.cls).before a0 Z = true) (w4 : (Jvm.Cond.code y bytes maxL ret).before a0 Z = true)
    (hy : y.cls ≠ "java/lang/invoke/MethodHandle" ∧ y.cls ≠ "java/lang/invoke/VarHandle") (eT : T.heap = h) (hN : own_Sn s0 s h)
    (hM : MetFree l y (head1 [Jvm.Cond.code y bytes maxL ret] rm) (fun a U => a = as' ∧ Z.Warmed39 U.vm ∧ U.heap = h) (fun _ _ _ _ _ => True) (fun _ U o U' => ∃ v L, o = .returned v ∧ Qc v U'.heap L ∧ ReturnedEndW U o U' L rm.cells rm.slots))
    (W : Nat) {g : JFrame} (argsL rest : List Value) (hdg : decode c.code g.pc = .ok (.invokestatic index, 3)) (hlen : ∀ sig, parseMethodDescriptor y.desc = some sig → argsL.length = sig.parameters.length)
    (hf : rm.frames + 1 ≤ R.frames) (hl : W + (maxL + 11) + rm.locals ≤ R.locals) (hc : cells + rm.cells ≤ R.cells) (hs : slots + rm.slots ≤ R.slots)
    (hg : g.method = m) (hsize : g.locals.size = c.maxLocals) (hstack : g.stack = argsL.reverse ++ rest) (hW : 2 * g.monitorRoom + (rest.map fun v => v.category).sum ≤ W) (has : argsL.toArray = as')
    (k : ∀ T' L v s', own_Sn s0 s' T'.heap → s.Warmed39 s'.vm → Z.Warmed39 s'.vm → s'.vm.findClass own = some m.cls → Stand p l e R s' m args below meth c T' (locs ++ L) (cells + rm.cells) (slots + rm.slots) → Qc v T'.heap L → own_Ends p e below s0 Q kc ks (T'.setTop { g with pc := g.pc + 3, stack := v.toList ++ rest })) :
    own_Ends p e below s0 Q kc ks (T.setTop g) := by
  subst has
  obtain ⟨vm0, n0, rfl, hS, hn⟩ := hN
  obtain ⟨v, _, ⟨T', L', c', n'⟩, -, X', h2, hg2, ⟨L, hQ, l1, y1, z1⟩, st⟩ := callSS X hx hown (mvT hZ w1) (mvT hZ w2) (mvT hZ w3) (mvT hZ w4) hy (backOfS (W := W) hM hZ w4 w3 hf hl) hg hsize hlen hstack hW hdg (fun _ _ => ⟨rfl, eT, hc, hs⟩)
  dsimp only [Pt.U, Pt.locs, Pt.cells, Pt.slots] at X' l1 y1 z1 st hQ
  subst l1 y1 z1
  have hk : n0 ≤ T.heap.size := by rw [eT]; exact hn
  obtain ⟨Y, S', Z', O'⟩ := rebS hS hk X' h2 hg2 hZ hown
  exact own_up (fun t q => st.trans q) (k T' L v _ ⟨_, _, rfl, S', Nat.le_refl _⟩ h2.1 Z' O' Y hQ)
theorem own_callI (X : Stand p l e R s m args below meth c T locs cells slots) (hx : p.tables.exec = Jvm.exec) (hZ : Z.Warmed39 s.vm) {own : String} {index : Nat} {y : MethodName} {bytes : ByteArray} {maxL : Nat} {rm : Room} {as' : Array Value} {Qc : Option Value → Heap → List Loc → Prop}
    (hy1 : y.name = "<init>") (hown : s.vm.findClass own = some m.cls) (w1 : (Jvm.Cond.methodLink own index y).before a0 Z = true) (w2 : (Jvm.Cond.instanceMethod y).before a0 Z = true) (w3 : (Jvm.Cond.initialized y.cls).before a0 Z = true) (w4 : (Jvm.Cond.code y bytes maxL none).before a0 Z = true)
    (hy : y.cls ≠ "java/lang/invoke/MethodHandle" ∧ y.cls ≠ "java/lang/invoke/VarHandle") (eT : T.heap = h) (hN : own_Sn s0 s h)
    (hM : MetFree l y (head1 [Jvm.Cond.code y bytes maxL none] rm) (fun a U => a = as' ∧ Z.Warmed39 U.vm ∧ U.heap = h) (fun _ _ _ _ _ => True) (fun _ U o U' => ∃ v L, o = .returned v ∧ Qc v U'.heap L ∧ ReturnedEndW U o U' L rm.cells rm.slots))
    (W : Nat) {g : JFrame} (a : Addr) (argsL rest : List Value) (hdg : decode c.code g.pc = .ok (.invokespecial index, 3)) (hlen : ∀ sig, parseMethodDescriptor y.desc = some sig → argsL.length = sig.parameters.length)
    (hf : rm.frames + 1 ≤ R.frames) (hl : W + (maxL + 11) + rm.locals ≤ R.locals) (hc : cells + rm.cells ≤ R.cells) (hs : slots + rm.slots ≤ R.slots)
    (hg : g.method = m) (hsize : g.locals.size = c.maxLocals) (hstack : g.stack = argsL.reverse ++ .ref a :: rest) (hW : 2 * g.monitorRoom + (rest.map fun v => v.category).sum ≤ W) (has : (.ref a :: argsL).toArray = as')
    (k : ∀ T' L v s', own_Sn s0 s' T'.heap → s.Warmed39 s'.vm → Z.Warmed39 s'.vm → s'.vm.findClass own = some m.cls → Stand p l e R s' m args below meth c T' (locs ++ L) (cells + rm.cells) (slots + rm.slots) → Qc v T'.heap L → own_Ends p e below s0 Q kc ks (T'.setTop { g with pc := g.pc + 3, stack := v.toList ++ rest })) :
    own_Ends p e below s0 Q kc ks (T.setTop g) := by
  subst has
  obtain ⟨vm0, n0, rfl, hS, hn⟩ := hN
  obtain ⟨v, _, ⟨T', L', c', n'⟩, -, X', h2, hg2, ⟨L, hQ, l1, y1, z1⟩, st⟩ := X.specialBackS hx hy1 hown (mvT hZ w1) (mvT hZ w2) (mvT hZ w4) hy (backOfS (W := W) hM hZ w4 w3 hf hl) hg hsize (Steps.refl _) hlen hstack hW hdg (fun _ _ => ⟨rfl, eT, hc, hs⟩)
  dsimp only [Pt.U, Pt.locs, Pt.cells, Pt.slots] at X' l1 y1 z1 st hQ
  subst l1 y1 z1
  have hk : n0 ≤ T.heap.size := by rw [eT]; exact hn
  obtain ⟨Y, S', Z', O'⟩ := rebS hS hk X' h2 hg2 hZ hown
  exact own_up (fun t q => st.trans q) (k T' L v _ ⟨_, _, rfl, S', Nat.le_refl _⟩ h2.1 Z' O' Y hQ)
theorem own_callV (X : Stand p l e R s m args below meth c T locs cells slots) (hx : p.tables.exec = Jvm.exec) (hZ : Z.Warmed39 s.vm) {own C : String} {index : Nat} {y : MethodName} {bytes : ByteArray} {maxL : Nat} {ret : Option FieldType} {rm : Room} {as' : Array Value} {Qc : Option Value → Heap → List Loc → Prop}
    (hown : s.vm.findClass own = some m.cls) (w1 : (Jvm.Cond.methodLink own index y).before a0 Z = true) (w2 : (Jvm.Cond.declares y).before a0 Z = true) (w5 : (Jvm.Cond.selects C y y).before a0 Z = true) (w6 : (Jvm.Cond.instanceMethod y).before a0 Z = true) (w3 : (Jvm.Cond.initialized y.cls).before a0 Z = true) (w4 : (Jvm.Cond.code y bytes maxL ret).before a0 Z = true)
    (hy : y.cls ≠ "java/lang/invoke/MethodHandle" ∧ y.cls ≠ "java/lang/invoke/VarHandle") (eT : T.heap = h) (hN : own_Sn s0 s h)
    (hM : MetFree l y (head1 [Jvm.Cond.code y bytes maxL ret] rm) (fun a U => a = as' ∧ Z.Warmed39 U.vm ∧ U.heap = h) (fun _ _ _ _ _ => True) (fun _ U o U' => ∃ v L, o = .returned v ∧ Qc v U'.heap L ∧ ReturnedEndW U o U' L rm.cells rm.slots))
    (W : Nat) {g : JFrame} {a : Addr} (E : Exa Z h a C) (argsL rest : List Value) (hdg : decode c.code g.pc = .ok (.invokevirtual index, 3)) (hlen : ∀ sig, parseMethodDescriptor y.desc = some sig → argsL.length = sig.parameters.length)
    (hf : rm.frames + 1 ≤ R.frames) (hl : W + (maxL + 11) + rm.locals ≤ R.locals) (hc : cells + rm.cells ≤ R.cells) (hs : slots + rm.slots ≤ R.slots)
    (hg : g.method = m) (hsize : g.locals.size = c.maxLocals) (hstack : g.stack = argsL.reverse ++ .ref a :: rest) (hW : 2 * g.monitorRoom + (rest.map fun v => v.category).sum ≤ W) (has : (.ref a :: argsL).toArray = as')
    (k : ∀ T' L v s', own_Sn s0 s' T'.heap → s.Warmed39 s'.vm → Z.Warmed39 s'.vm → s'.vm.findClass own = some m.cls → Stand p l e R s' m args below meth c T' (locs ++ L) (cells + rm.cells) (slots + rm.slots) → Qc v T'.heap L → own_Ends p e below s0 Q kc ks (T'.setTop { g with pc := g.pc + 3, stack := v.toList ++ rest })) :
    own_Ends p e below s0 Q kc ks (T.setTop g) := by
  subst has
  obtain ⟨vm0, n0, rfl, hS, hn⟩ := hN
  obtain ⟨cq, kq, qa, qb, qc⟩ := isOf hZ eT E
  obtain ⟨v, _, ⟨T', L', c', n'⟩, -, X', h2, hg2, ⟨L, hQ, l1, y1, z1⟩, st⟩ := X.virtualBackS hx hown (mvT hZ w1) (mvT hZ w2) (notFace_of_selects (args := #[]) (mvT hZ w5)) (mvT hZ w5) (mvT hZ w6) hy (backOfS (W := W) hM hZ w4 w3 hf hl) qa qc hg hsize (Steps.refl _) hlen hstack hW hdg (fun _ _ => ⟨rfl, eT, hc, hs⟩)
  dsimp only [Pt.U, Pt.locs, Pt.cells, Pt.slots] at X' l1 y1 z1 st hQ
  subst l1 y1 z1
  have hk : n0 ≤ T.heap.size := by rw [eT]; exact hn
  obtain ⟨Y, S', Z', O'⟩ := rebS hS hk X' h2 hg2 hZ hown
  exact own_up (fun t q => st.trans q) (k T' L v _ ⟨_, _, rfl, S', Nat.le_refl _⟩ h2.1 Z' O' Y hQ)
/-- the link names y in a class that inherits it from 'owner' -/
theorem own_callU (X : Stand p l e R s m args below meth c T locs cells slots) (hx : p.tables.exec = Jvm.exec) (hZ : Z.Warmed39 s.vm) {own C owner : String} {index : Nat} {x y : MethodName} {bytes : ByteArray} {maxL : Nat} {ret : Option FieldType} {rm : Room} {as' : Array Value} {Qc : Option Value → Heap → List Loc → Prop}
    (hown : s.vm.findClass own = some m.cls) (w1 : (Jvm.Cond.methodLink own index x).before a0 Z = true) (w7 : (Jvm.Cond.sameMethod x.cls owner x.name x.desc).before a0 Z = true) (w2 : (Jvm.Cond.declares ⟨owner, x.name, x.desc⟩).before a0 Z = true) (w5 : (Jvm.Cond.selects C x y).before a0 Z = true) (w6 : (Jvm.Cond.instanceMethod y).before a0 Z = true) (w3 : (Jvm.Cond.initialized y.cls).before a0 Z = true) (w4 : (Jvm.Cond.code y bytes maxL ret).before a0 Z = true)
    (hy : owner ≠ "java/lang/invoke/MethodHandle" ∧ owner ≠ "java/lang/invoke/VarHandle") (eT : T.heap = h) (hN : own_Sn s0 s h)
    (hM : MetFree l y (head1 [Jvm.Cond.code y bytes maxL ret] rm) (fun a U => a = as' ∧ Z.Warmed39 U.vm ∧ U.heap = h) (fun _ _ _ _ _ => True) (fun _ U o U' => ∃ v L, o = .returned v ∧ Qc v U'.heap L ∧ ReturnedEndW U o U' L rm.cells rm.slots))
    (W : Nat) {g : JFrame} {a : Addr} (E : Exa Z h a C) (argsL rest : List Value) (hdg : decode c.code g.pc = .ok (.invokevirtual index, 3)) (hlen : ∀ sig, parseMethodDescriptor x.desc = some sig → argsL.length = sig.parameters.length)
    (hf : rm.frames + 1 ≤ R.frames) (hl : W + (maxL + 11) + rm.locals ≤ R.locals) (hc : cells + rm.cells ≤ R.cells) (hs : slots + rm.slots ≤ R.slots)
    (hg : g.method = m) (hsize : g.locals.size = c.maxLocals) (hstack : g.stack = argsL.reverse ++ .ref a :: rest) (hW : 2 * g.monitorRoom + (rest.map fun v => v.category).sum ≤ W) (has : (.ref a :: argsL).toArray = as')
    (k : ∀ T' L v s', own_Sn s0 s' T'.heap → s.Warmed39 s'.vm → Z.Warmed39 s'.vm → s'.vm.findClass own = some m.cls → Stand p l e R s' m args below meth c T' (locs ++ L) (cells + rm.cells) (slots + rm.slots) → Qc v T'.heap L → own_Ends p e below s0 Q kc ks (T'.setTop { g with pc := g.pc + 3, stack := v.toList ++ rest })) :
    own_Ends p e below s0 Q kc ks (T.setTop g) := by
  subst has
  obtain ⟨vm0, n0, rfl, hS, hn⟩ := hN
  obtain ⟨cq, kq, qa, qb, qc⟩ := isOf hZ eT E
  obtain ⟨v, _, ⟨T', L', c', n'⟩, -, X', h2, hg2, ⟨L, hQ, l1, y1, z1⟩, st⟩ := X.virtualBackUpS hx hown (mvT hZ w1) (mvT hZ w7) (mvT hZ w2) hy (mvT hZ w5) (mvT hZ w6) (backOfS (W := W) hM hZ w4 w3 hf hl) qa qc hg hsize (Steps.refl _) hlen hstack hW hdg (fun _ _ => ⟨rfl, eT, hc, hs⟩)
  dsimp only [Pt.U, Pt.locs, Pt.cells, Pt.slots] at X' l1 y1 z1 st hQ
  subst l1 y1 z1
  have hk : n0 ≤ T.heap.size := by rw [eT]; exact hn
  obtain ⟨Y, S', Z', O'⟩ := rebS hS hk X' h2 hg2 hZ hown
  exact own_up (fun t q => st.trans q) (k T' L v _ ⟨_, _, rfl, S', Nat.le_refl _⟩ h2.1 Z' O' Y hQ)
theorem own_init (X : Stand p l e R s m args below meth c T locs cells slots) (hx : p.tables.exec = Jvm.exec) (hZ : Z.Warmed39 s.vm) {own : String} {idx : Nat} (hown : s.vm.findClass own = some m.cls) (w1 : (Jvm.Cond.methodLink own idx Lib.objectInit).before a0 Z = true) (w2 : (Jvm.Cond.instanceMethod Lib.objectInit).before a0 Z = true)
    (w3 : (Jvm.Cond.code Lib.objectInit ⟨#[0xb1]⟩ 1 none).before a0 Z = true) (eT : T.heap = h) (W : Nat) {g g' : JFrame} {a : Addr} {rest : List Value} (hd : decode c.code g.pc = .ok (.invokespecial idx, 3)) (hf : 1 ≤ R.frames) (hl : W + 12 ≤ R.locals)
    (hg : g.method = m) (hsize : g.locals.size = c.maxLocals) (hs : g.stack = .ref a :: rest) (hW : 2 * g.monitorRoom + (rest.map fun v => v.category).sum ≤ W) (hg' : { g with pc := g.pc + 3, stack := rest } = g')
    (k : ∀ T', Stand p l e R s m args below meth c T' locs cells slots → T'.heap = h → own_Ends p e below s0 Q kc ks (T'.setTop g')) : own_Ends p e below s0 Q kc ks (T.setTop g) := by
  subst hg'
  obtain ⟨T', X', e', st⟩ := initO X hx hZ hown w1 w2 w3 eT hg hsize hs hd hf hW hl
  exact own_up st (k T' X' e')
theorem own_ldcs (X : Stand p l e R s m args below meth c T locs cells slots) (hx : p.tables.exec = Jvm.exec) (hZ : Z.Warmed39 s.vm) {own text : String} {index : Nat} (hown : s.vm.findClass own = some m.cls) (w : (Jvm.Cond.stringLink own index text).before a0 Z = true) (wS : ∀ a ∈ Bundle.stringAtoms, a.before a0 Z = true)
    (eT : T.heap = h) (hN : own_Sn s0 s h) (n : Nat) {g : JFrame} (hd : decode c.code g.pc = .ok (.ldc index, 2)) (hn : 4 * text.toList.length ≤ n) (hbig : n ≤ 536870912) (hc : cells + 2 ≤ R.cells) (hl : slots + (n + 4) ≤ R.slots) (hg : g.method = m)
    (k : ∀ a T' h' s', own_Sn s0 s' h' → s.Warmed39 s'.vm → Z.Warmed39 s'.vm → s'.vm.findClass own = some m.cls → Stand p l e R s' m args below meth c T' locs (cells + 2) (slots + (n + 4)) → T'.heap = h' → Ext h h' → own_Ends p e below s0 Q kc ks (T'.setTop { g with pc := g.pc + 2, stack := .ref a :: g.stack })) :
    own_Ends p e below s0 Q kc ks (T.setTop g) := by
  obtain ⟨vm0, n0, rfl, hS, hk⟩ := hN
  obtain ⟨a, T', h', k1, X', e', E, S', hk', Z', O', st⟩ := ldcS (s := s0.setVm vm0) (vm0 := vm0) X hx hZ hown w wS eT ((State.WarmedH.refl (s0.setVm vm0)).since h.size) (Nat.le_refl _) hg hd hn hbig hc hl
  have S2 : (s0.setVm vm0).Since T'.vm h'.size := ⟨S'.1, S'.2.mono hk'⟩
  exact own_up st (k a T' h' _ ⟨_, _, rfl, hS.trans S2 (Nat.le_trans hk E.1), Nat.le_refl _⟩ S'.1 Z' O' X' e' E)
/-! the heap -/
theorem own_new (X : Stand p l e R s m args below meth c T locs cells slots) (hx : p.tables.exec = Jvm.exec) (hZ : Z.Warmed39 s.vm) {own C : String} {index n : Nat} (hown : s.vm.findClass own = some m.cls) (w : (Jvm.Cond.classLink own index C).before a0 Z = true) (wi : (Jvm.Cond.instantiable C n).before a0 Z = true) (wz : (Jvm.Cond.initialized C).before a0 Z = true) (eT : T.heap = h)
    {g : JFrame} (hg : g.method = m) (hd : decode c.code g.pc = .ok (.new index, 3)) (hc : cells + 1 ≤ R.cells) (hl : slots + n ≤ R.slots)
    (k : ∀ T' h' b, b = h.size → Stand p l e R s m args below meth c T' locs (cells + 1) (slots + n) → T'.heap = h' → Ext h h' → Exa Z h' b C → (∀ {O nm d : String} {ty : FieldType}, Laid Z a0 C O nm d → parseFieldDescriptor d = some ty → Fld Z h' b O nm d (defaultValue ty)) → own_Ends p e below s0 Q kc ks (T'.setTop { g with pc := g.pc + 3, stack := .ref b :: g.stack })) : own_Ends p e below s0 Q kc ks (T.setTop g) := by
  obtain ⟨T', h', X', e', E, A, D, -, st⟩ := newO X hx hZ hown w wi wz eT hg hd hc hl
  exact own_up st (k T' h' _ rfl X' e' E A D)
theorem own_get (X : Stand p l e R s m args below meth c T locs cells slots) (hx : p.tables.exec = Jvm.exec) (hZ : Z.Warmed39 s.vm) {own R0 O n d : String} {index : Nat} (hown : s.vm.findClass own = some m.cls) (w : (Jvm.Cond.fieldLink own index R0 n d).before a0 Z = true) (via : Via Z R0 O n d)
    (eT : T.heap = h) {a : Addr} {v : Value} (F : Fld Z h a O n d v) {g g' : JFrame} {rest : List Value} (hd : decode c.code g.pc = .ok (.getfield index, 3)) (hg : g.method = m) (hs : g.stack = .ref a :: rest) (hg' : { g with pc := g.pc + 3, stack := v :: rest } = g')
    (k : ∀ T', Stand p l e R s m args below meth c T' locs cells slots → T'.heap = h → own_Ends p e below s0 Q kc ks (T'.setTop g')) : own_Ends p e below s0 Q kc ks (T.setTop g) := by
  subst hg'
  obtain ⟨T', X', e', st⟩ := getF X hx hZ hown (host := "") (Or.inl w) via eT F hg hs hd
  exact own_up st (k T' X' e')
theorem own_gets (X : Stand p l e R s m args below meth c T locs cells slots) (hx : p.tables.exec = Jvm.exec) (hZ : Z.Warmed39 s.vm) {own R0 O n d : String} {index : Nat} (hown : s.vm.findClass own = some m.cls) (w : (Jvm.Cond.fieldLink own index R0 n d).before a0 Z = true) (via : Via Z R0 O n d)
    (eT : T.heap = h) {v : Value} (F : Sta Z h O n d v) {g g' : JFrame} (hd : decode c.code g.pc = .ok (.getstatic index, 3)) (hg : g.method = m) (hg' : { g with pc := g.pc + 3, stack := v :: g.stack } = g')
    (k : ∀ T', Stand p l e R s m args below meth c T' locs cells slots → T'.heap = h → own_Ends p e below s0 Q kc ks (T'.setTop g')) : own_Ends p e below s0 Q kc ks (T.setTop g) := by
  subst hg'
  obtain ⟨T', X', e', st⟩ := getS2 X hx hZ hown (host := "") (Or.inl w) via eT F hg hd
  exact own_up st (k T' X' e')
theorem own_put (X : Stand p l e R s m args below meth c T locs cells slots) (hx : p.tables.exec = Jvm.exec) (hZ : Z.Warmed39 s.vm) {own R0 O n d C : String} {index kk : Nat} (ty : FieldType) (hown : s.vm.findClass own = some m.cls) (w : (Jvm.Cond.fieldLink own index R0 n d).before a0 Z = true) (via : Via Z R0 O n d)
    (eT : T.heap = h) {a : Addr} {v v' old : Value} (F : Fld Z h a O n d old) (E : Exa Z h a C) (L : (Jvm.Cond.lays C O n d).before a0 Z = true ∨ ((Jvm.Cond.laysFinal C O n d).before a0 Z = true ∧ own = O ∧ meth.name = "<init>")) (wi : (Jvm.Cond.instantiable C kk).before a0 Z = true)
    (hty : parseFieldDescriptor d = some ty) (hn : narrow ty v = v') (hf : fits ty v' = true) {g g' : JFrame} {rest : List Value} (hd : decode c.code g.pc = .ok (.putfield index, 3)) (hg : g.method = m) (hs : g.stack = v :: .ref a :: rest) (hg' : { g with pc := g.pc + 3, stack := rest } = g')
    (k : ∀ T' h', Stand p l e R s m args below meth c T' (locs ++ [⟨a, Jvm.RoadKit.slotOf Z O n d⟩]) cells slots → T'.heap = h' → Wr h h' a (Jvm.RoadKit.slotOf Z O n d) v' → own_Ends p e below s0 Q kc ks (T'.setTop g')) : own_Ends p e below s0 Q kc ks (T.setTop g) := by
  subst hg'
  obtain ⟨T', h', X', e', W, st⟩ := putFN X hx hZ hown w via eT F E L wi hty hn hf hg hs hd
  exact own_up st (k T' h' X' e' W)
theorem own_fr {k : Nat} {L : List Loc} {a : Addr} {sl : Nat} (N : Fr k L) (q : k ≤ a) : Fr k (L ++ [⟨a, sl⟩]) := N.app fun y hy => by cases List.mem_singleton.mp hy; exact q
/-! arrays: the list of the values -/
def own_Al (Z : State) (h : Heap) (a : Addr) (ty : FieldType) (vs : List Value) : Prop := ∃ c : Cell, Arr Z h a c ty ∧ c.slots.toList = vs ∧ vs.length < 2 ^ 31
theorem own_Al_lt {h : Heap} {a : Addr} {ty : FieldType} {vs : List Value} (A : own_Al Z h a ty vs) : a < h.size := by obtain ⟨c, A, -⟩ := A; exact A.lt
theorem own_Al_ext {h h' : Heap} {a : Addr} {ty : FieldType} {vs : List Value} (E : Ext h h') (A : own_Al Z h a ty vs) : own_Al Z h' a ty vs := by obtain ⟨c, A, r⟩ := A; exact ⟨c, A.ext E, r⟩
theorem own_Al_oth {h h' : Heap} {a b : Addr} {sl : Nat} {v : Value} {ty : FieldType} {vs : List Value} (W : Wr h h' b sl v) (A : own_Al Z h a ty vs) (ne : a ≠ b) : own_Al Z h' a ty vs := by obtain ⟨c, A, r⟩ := A; exact ⟨c, A.other W ne, r⟩
theorem own_Al_keep {h h' : Heap} {a : Addr} {ws : List Addr} {ty : FieldType} {vs : List Value} (K : Keep h h' ws) (A : own_Al Z h a ty vs) (ne : a ∉ ws) : own_Al Z h' a ty vs := by obtain ⟨c, A, r⟩ := A; exact ⟨c, ⟨K.2.1 a c A.1 ne, A.2⟩, r⟩
theorem own_nat {j : Int32} {i : Nat} (hj : j.toInt = i) : ¬ j < 0 ∧ j.toNatClampNeg = i := by
  have h0 : ¬ j < 0 := by rw [Int32.lt_iff_toInt_lt, hj]; have : (0 : Int32).toInt = 0 := rfl; omega
  refine ⟨h0, ?_⟩
  have := nat_of h0
  omega
theorem own_newa (X : Stand p l e R s m args below meth c T locs cells slots) (hx : p.tables.exec = Jvm.exec) (hZ : Z.Warmed39 s.vm) {aty : ArrayType} {ty : FieldType} (hty : newarray.typeOf aty = ty) (w : (Jvm.Cond.arrayClass ty).before a0 Z = true) (eT : T.heap = h) {g : JFrame} {z : Int32} (nn : Nat) {rest : List Value} (hd : decode c.code g.pc = .ok (.newarray aty, 2)) (hn : z.toInt = nn) (cap : Nat) (hcap : nn ≤ cap) (hb : cap * 8 ≤ 536870912) (hc : cells + 1 ≤ R.cells) (hl : slots + cap ≤ R.slots)
    (hg : g.method = m) (hs : g.stack = .int z :: rest)
    (k : ∀ T' h' b, b = h.size → Stand p l e R s m args below meth c T' locs (cells + 1) (slots + cap) → T'.heap = h' → Ext h h' → own_Al Z h' b ty (List.replicate nn (defaultValue ty)) → own_Ends p e below s0 Q kc ks (T'.setTop { g with pc := g.pc + 2, stack := .ref b :: rest })) : own_Ends p e below s0 Q kc ks (T.setTop g) := by
  subst hty
  obtain ⟨h0, h1⟩ := own_nat hn
  obtain ⟨T', h', cA, X', e', E, A, st⟩ := newP X hx hZ w eT hg hd hs h0 (cap := cap) (by omega) hb hc hl
  exact own_up st (k T' h' _ rfl X' e' E ⟨_, A, by simp [newA, h1], by simp; omega⟩)
theorem own_in {ty : FieldType} {vs : List Value} {cl : Cell} {j : Int32} {i : Nat} (hv : cl.slots.toList = vs) (hj : j.toInt = i) (hi : i < vs.length) : ¬ (j < 0 ∨ cl.slots.size ≤ j.toNatClampNeg) := by
  obtain ⟨h0, h1⟩ := own_nat hj
  subst hv
  rintro (q | q)
  · exact h0 q
  · rw [h1] at q; simp at hi; omega
theorem own_Al_set {h h' : Heap} {a : Addr} {cl : Cell} {ty : FieldType} {vs : List Value} {j : Int32} {i : Nat} {v : Value} (A : Arr Z h a cl ty) (hv : cl.slots.toList = vs) (hl : vs.length < 2 ^ 31) (hj : j.toInt = i) (W : Wr h h' a j.toNatClampNeg v) : own_Al Z h' a ty (vs.set i v) := by
  obtain ⟨h0, h1⟩ := own_nat hj
  rw [h1] at W
  exact ⟨_, A.same W, by simp [Cell.setSlot, hv], by simpa using hl⟩
theorem own_sti (X : Stand p l e R s m args below meth c T locs cells slots) (hx : p.tables.exec = Jvm.exec) (hZ : Z.Warmed39 s.vm) (eT : T.heap = h) {a : Addr} {vs : List Value} (A : own_Al Z h a .int vs) {j x : Int32} (i : Nat) {g g' : JFrame} {rest : List Value} (hd : decode c.code g.pc = .ok (.iastore, 1)) (hj : j.toInt = i) (hi : i < vs.length) (hg : g.method = m) (hs : g.stack = .int x :: .int j :: .ref a :: rest) (hg' : { g with pc := g.pc + 1, stack := rest } = g')
    (k : ∀ T' h', Stand p l e R s m args below meth c T' (locs ++ [⟨a, j.toNatClampNeg⟩]) cells slots → T'.heap = h' → Wr h h' a j.toNatClampNeg (.int x) → own_Al Z h' a .int (vs.set i (.int x)) → own_Ends p e below s0 Q kc ks (T'.setTop g')) : own_Ends p e below s0 Q kc ks (T.setTop g) := by
  subst hg'
  obtain ⟨cl, A, hv, hl⟩ := A
  obtain ⟨T', h', X', e', W, st⟩ := stI X hx hZ eT A (own_in (ty := .int) hv hj hi) hg hs hd
  exact own_up st (k T' h' X' e' W (own_Al_set A hv hl hj W))
theorem own_stj (X : Stand p l e R s m args below meth c T locs cells slots) (hx : p.tables.exec = Jvm.exec) (hZ : Z.Warmed39 s.vm) (eT : T.heap = h) {a : Addr} {vs : List Value} (A : own_Al Z h a .long vs) {j : Int32} {x : Int64} (i : Nat) {g g' : JFrame} {rest : List Value} (hd : decode c.code g.pc = .ok (.lastore, 1)) (hj : j.toInt = i) (hi : i < vs.length) (hg : g.method = m) (hs : g.stack = .long x :: .int j :: .ref a :: rest) (hg' : { g with pc := g.pc + 1, stack := rest } = g')
    (k : ∀ T' h', Stand p l e R s m args below meth c T' (locs ++ [⟨a, j.toNatClampNeg⟩]) cells slots → T'.heap = h' → Wr h h' a j.toNatClampNeg (.long x) → own_Al Z h' a .long (vs.set i (.long x)) → own_Ends p e below s0 Q kc ks (T'.setTop g')) : own_Ends p e below s0 Q kc ks (T.setTop g) := by
  subst hg'
  obtain ⟨cl, A, hv, hl⟩ := A
  obtain ⟨T', h', X', e', W, st⟩ := stJ X hx hZ eT A (own_in (ty := .long) hv hj hi) hg hs hd
  exact own_up st (k T' h' X' e' W (own_Al_set A hv hl hj W))
theorem own_stb (X : Stand p l e R s m args below meth c T locs cells slots) (hx : p.tables.exec = Jvm.exec) (hZ : Z.Warmed39 s.vm) (eT : T.heap = h) {a : Addr} {vs : List Value} (A : own_Al Z h a .byte vs) {j x : Int32} (i : Nat) {g g' : JFrame} {rest : List Value} (hd : decode c.code g.pc = .ok (.bastore, 1)) (hj : j.toInt = i) (hi : i < vs.length) (hg : g.method = m) (hs : g.stack = .int x :: .int j :: .ref a :: rest) (hg' : { g with pc := g.pc + 1, stack := rest } = g')
    (k : ∀ T' h', Stand p l e R s m args below meth c T' (locs ++ [⟨a, j.toNatClampNeg⟩]) cells slots → T'.heap = h' → Wr h h' a j.toNatClampNeg (.int (nar .byte x)) → own_Al Z h' a .byte (vs.set i (.int (nar .byte x))) → own_Ends p e below s0 Q kc ks (T'.setTop g')) : own_Ends p e below s0 Q kc ks (T.setTop g) := by
  subst hg'
  obtain ⟨cl, A, hv, hl⟩ := A
  obtain ⟨T', h', X', e', W, st⟩ := stB X hx hZ eT A (own_in (ty := .byte) hv hj hi) hg hs hd
  exact own_up st (k T' h' X' e' W (own_Al_set A hv hl hj W))
theorem own_at {vs : List Value} {cl : Cell} {j : Int32} {i : Nat} {v : Value} (hv : cl.slots.toList = vs) (hj : j.toInt = i) (hi : vs[i]? = some v) : cl.slots[j.toNatClampNeg]? = some v := by
  rw [(own_nat hj).2, ← Array.getElem?_toList, hv]; exact hi
theorem own_ldi (X : Stand p l e R s m args below meth c T locs cells slots) (hx : p.tables.exec = Jvm.exec) (hZ : Z.Warmed39 s.vm) (eT : T.heap = h) {a : Addr} {vs : List Value} (A : own_Al Z h a .int vs) {j : Int32} {v : Value} (i : Nat) {g g' : JFrame} {rest : List Value} (hd : decode c.code g.pc = .ok (.iaload, 1)) (hj : j.toInt = i) (hi : vs[i]? = some v) (hg : g.method = m) (hs : g.stack = .int j :: .ref a :: rest) (hg' : { g with pc := g.pc + 1, stack := v :: rest } = g')
    (k : own_Ends p e below s0 Q kc ks (T.setTop g')) : own_Ends p e below s0 Q kc ks (T.setTop g) := by
  subst hg'
  obtain ⟨cl, A, hv, hl⟩ := A
  exact own_up (fun t => X.iaload hx (by rw [eT]; exact A.1) (State.isArrayOf_alike hZ.alike A.2.1) A.2.2 (own_in (ty := .int) hv hj (List.getElem?_eq_some_iff.mp hi).1) (own_at hv hj hi) hg hs hd t) k
theorem own_ldj (X : Stand p l e R s m args below meth c T locs cells slots) (hx : p.tables.exec = Jvm.exec) (hZ : Z.Warmed39 s.vm) (eT : T.heap = h) {a : Addr} {vs : List Value} (A : own_Al Z h a .long vs) {j : Int32} {v : Value} (i : Nat) {g g' : JFrame} {rest : List Value} (hd : decode c.code g.pc = .ok (.laload, 1)) (hj : j.toInt = i) (hi : vs[i]? = some v) (hg : g.method = m) (hs : g.stack = .int j :: .ref a :: rest) (hg' : { g with pc := g.pc + 1, stack := v :: rest } = g')
    (k : own_Ends p e below s0 Q kc ks (T.setTop g')) : own_Ends p e below s0 Q kc ks (T.setTop g) := by
  subst hg'
  obtain ⟨cl, A, hv, hl⟩ := A
  exact own_up (fun t => X.laload hx (by rw [eT]; exact A.1) (State.isArrayOf_alike hZ.alike A.2.1) A.2.2 (own_in (ty := .long) hv hj (List.getElem?_eq_some_iff.mp hi).1) (own_at hv hj hi) hg hs hd t) k
theorem own_ldb (X : Stand p l e R s m args below meth c T locs cells slots) (hx : p.tables.exec = Jvm.exec) (hZ : Z.Warmed39 s.vm) (eT : T.heap = h) {a : Addr} {vs : List Value} (A : own_Al Z h a .byte vs) {j : Int32} {v : Value} (i : Nat) {g g' : JFrame} {rest : List Value} (hd : decode c.code g.pc = .ok (.baload, 1)) (hj : j.toInt = i) (hi : vs[i]? = some v) (hg : g.method = m) (hs : g.stack = .int j :: .ref a :: rest) (hg' : { g with pc := g.pc + 1, stack := v :: rest } = g')
    (k : own_Ends p e below s0 Q kc ks (T.setTop g')) : own_Ends p e below s0 Q kc ks (T.setTop g) := by
  subst hg'
  obtain ⟨cl, A, hv, hl⟩ := A
  exact own_up (fun t => X.baloadBytes hx (by rw [eT]; exact A.1) (State.isArrayOf_alike hZ.alike A.2.1) A.2.2 (own_in (ty := .byte) hv hj (List.getElem?_eq_some_iff.mp hi).1) (own_at hv hj hi) hg hs hd t) k
theorem own_len (X : Stand p l e R s m args below meth c T locs cells slots) (hx : p.tables.exec = Jvm.exec) (hZ : Z.Warmed39 s.vm) (eT : T.heap = h) {a : Addr} {ty : FieldType} {vs : List Value} (A : own_Al Z h a ty vs) {g g' : JFrame} {rest : List Value} (z : Int32) (hd : decode c.code g.pc = .ok (.arraylength, 1)) (hz : z.toInt = vs.length) (hg : g.method = m) (hs : g.stack = .ref a :: rest) (hg' : { g with pc := g.pc + 1, stack := .int z :: rest } = g')
    (k : own_Ends p e below s0 Q kc ks (T.setTop g')) : own_Ends p e below s0 Q kc ks (T.setTop g) := by
  subst hg'
  obtain ⟨cl, A, hv, hl⟩ := A
  have q : cl.slots.size.toInt32 = z := by
    apply Int32.toInt_inj.mp
    have h2 : cl.slots.size = vs.length := by rw [← hv]; simp
    rw [hz, h2, len_toInt hl]
  exact own_up (fun t => X.arraylength hx (by rw [eT]; exact A.1) (State.isArrayOf_alike hZ.alike A.2.1) hg hs hd t) (by rw [q]; exact k)
theorem own_Al_arv {h : Heap} {a : Addr} {k : ClassId} {ty : FieldType} {z : Int32} {vs : List Value} {d : Value} (F : Arv Z h a k ty z vs d) (hl : z.toNatClampNeg = vs.length) : own_Al Z h a ty vs := by
  obtain ⟨cl, A, -, hz, h0, H, -⟩ := F
  have e1 : cl.slots.size = vs.length := hz.trans hl
  refine ⟨cl, A, ?_, ?_⟩
  · apply List.ext_getElem?
    intro i
    by_cases hi : i < cl.slots.size
    · rw [Array.getElem?_toList, H i hi]
      have hi' : i < vs.length := by omega
      simp [List.getD, List.getElem?_eq_getElem hi']
    · rw [Array.getElem?_toList, Array.getElem?_eq_none (by omega), List.getElem?_eq_none (by omega)]
  · rw [← hl]; exact (back32 h0).2
theorem own_ne_al {h : Heap} {a b : Addr} {C : String} {n : Nat} {ty : FieldType} {vs : List Value} (F : Exa Z h a C) (wi : (Jvm.Cond.instantiable C n).before a0 Z = true) (A : own_Al Z h b ty vs) : b ≠ a := by
  obtain ⟨cl, A, -⟩ := A
  exact Ne.symm (ne_arr F wi A)
theorem own_ldcv (X : Stand p l e R s m args below meth c T locs cells slots) (hx : p.tables.exec = Jvm.exec) (hZ : Z.Warmed39 s.vm) {own text : String} {index : Nat} {Ts : List String} (hown : s.vm.findClass own = some m.cls) (w : (Jvm.Cond.stringLink own index text).before a0 Z = true) (wS : ∀ a ∈ Bundle.stringAtoms, a.before a0 Z = true)
    (eT : T.heap = h) (hN : own_Sn s0 s h) (N : Fr s0.heap.size locs) (hkeep : ∀ (b : Addr) (cl : Cell), Z.heap[b]? = some cl → s0.heap[b]? = some cl) (I : IB Z s.vm Ts) (hnot : text ∉ Ts) (hh : Jvm.Lit.constHeld Z own index) (hcw : Jvm.Lit.compactW.before a0 Z = true) (vs : List Value) (z : Int32)
    (ht : (∀ c ∈ text.toList, c.toNat < 256) ∧ text.toList.map (fun c => Value.int (Jvm.Lit.byteI c.toNat.toUInt16)) = vs) (hz : ¬ z < 0) (hl : z.toNatClampNeg = vs.length) (n : Nat) {g : JFrame} (hd : decode c.code g.pc = .ok (.ldc index, 2)) (hn : 4 * text.toList.length ≤ n) (hbig : n ≤ 536870912) (hc : cells + 2 ≤ R.cells) (hl' : slots + (n + 4) ≤ R.slots) (hg : g.method = m)
    (k : ∀ a b T' h' s', own_Sn s0 s' h' → s.Warmed39 s'.vm → Z.Warmed39 s'.vm → s'.vm.findClass own = some m.cls → Stand p l e R s' m args below meth c T' locs (cells + 2) (slots + (n + 4)) → T'.heap = h' → Ext h h' → Exa Z h' a "java/lang/String" → Fld Z h' a "java/lang/String" "value" "[B" (.ref b) → own_Al Z h' b .byte vs → IB Z s'.vm (text :: Ts) → Lit s' own index a → own_Ends p e below s0 Q kc ks (T'.setTop { g with pc := g.pc + 2, stack := .ref a :: g.stack })) :
    own_Ends p e below s0 Q kc ks (T.setTop g) := by
  obtain ⟨vm0, n0, rfl, hS, hk⟩ := hN
  obtain ⟨a, T', h', k1, b, kb, X', e', E, S', hk', Z', O', hE, -, hF, hA, -, -, hI, hL, st⟩ := ldcSVL (s := s0.setVm vm0) (vm0 := vm0) X hx hZ hown w wS eT ((State.WarmedH.refl (s0.setVm vm0)).since h.size) (Nat.le_refl _) N hkeep I hnot hh hcw ht hz hl hg hd hn hbig hc hl'
  have S2 : (s0.setVm vm0).Since T'.vm h'.size := ⟨S'.1, S'.2.mono hk'⟩
  exact own_up st (k a b T' h' _ ⟨_, _, rfl, hS.trans S2 (Nat.le_trans hk E.1), Nat.le_refl _⟩ S'.1 Z' O' X' e' E hE hF (own_Al_arv hA hl) hI hL)
theorem own_ldca (X : Stand p l e R s m args below meth c T locs cells slots) (hx : p.tables.exec = Jvm.exec) (hZ : Z.Warmed39 s.vm) {own text : String} {index : Nat} (hown : s.vm.findClass own = some m.cls) (w : (Jvm.Cond.stringLink own index text).before a0 Z = true) {a : Addr} (L : Lit s own index a)
    {g : JFrame} (hd : decode c.code g.pc = .ok (.ldc index, 2)) (hg : g.method = m) (k : own_Ends p e below s0 Q kc ks (T.setTop { g with pc := g.pc + 2, stack := .ref a :: g.stack })) : own_Ends p e below s0 Q kc ks (T.setTop g) :=
  own_up (ldcAgain (s := s) (vm0 := s.vm) X hx hZ hown w L hg hd) k
end Own
theorem own_sub : ∀ d ∈ Bundle.stringAtoms, d ∈ tables_1 := by
  intro d hd
  simp only [Bundle.stringAtoms, List.mem_cons, List.not_mem_nil, or_false] at hd
  rcases hd with rfl | rfl | rfl | rfl | rfl | rfl | rfl
  · exact List.mem_of_getElem? (i := 5) rfl
  · exact List.mem_of_getElem? (i := 6) rfl
  · exact List.mem_of_getElem? (i := 7) rfl
  · exact List.mem_of_getElem? (i := 8) rfl
  · exact List.mem_of_getElem? (i := 9) rfl
  · exact List.mem_of_getElem? (i := 10) rfl
  · exact List.mem_of_getElem? (i := 11) rfl
theorem own_k1 {x v : Int32} (h : v = ((x &&& (2147483647 : Int32)) % (1001 : Int32))) : ¬ (v < (0 : Int32)) ∧ ¬ ((1000 : Int32) < v) := by
  have h1 : (x &&& (2147483647 : Int32)).toInt = x.toInt % 2147483648 := c_mask x (2147483647 : Int32) 31 (by decide) (by decide)
  have h2 := (c_irem (x &&& (2147483647 : Int32)) (1001 : Int32) 1001 rfl).1 (by omega)
  have z0 : (0 : Int32).toInt = 0 := rfl
  have z1 : (1000 : Int32).toInt = 1000 := rfl
  rw [← h] at h2
  simp only [Int32.lt_iff_toInt_lt]
  omega
theorem own_k2 {x v : Int32} (h : v = (((x &&& (2147483647 : Int32)) % (2001 : Int32)) - (1000 : Int32))) : ¬ (v < (-1000 : Int32)) ∧ ¬ ((1000 : Int32) < v) := by
  have h1 : (x &&& (2147483647 : Int32)).toInt = x.toInt % 2147483648 := c_mask x (2147483647 : Int32) 31 (by decide) (by decide)
  have h2 := (c_irem (x &&& (2147483647 : Int32)) (2001 : Int32) 2001 rfl).1 (by omega)
  have h3 := c_isub ((x &&& (2147483647 : Int32)) % (2001 : Int32)) (1000 : Int32)
  have z1 : (1000 : Int32).toInt = 1000 := rfl
  have z2 : (-1000 : Int32).toInt = -1000 := rfl
  have r := rng32 (((x &&& (2147483647 : Int32)) % (2001 : Int32)) - (1000 : Int32))
  rw [← h] at h3 r
  simp only [Int32.lt_iff_toInt_lt]
  omega
theorem own_pd0 : parseMethodDescriptor "(Ljava/lang/Object;Ljava/lang/String;)Ljava/lang/Object;" = some ⟨[(.object "java/lang/Object"), (.object "java/lang/String")], some (.object "java/lang/Object")⟩ := by decide +kernel
theorem own_pd1 : parseMethodDescriptor "()Z" = some ⟨[], some .boolean⟩ := by decide +kernel
theorem own_pd2 : parseMethodDescriptor "(Ljava/lang/String;Ljava/lang/String;)V" = some ⟨[(.object "java/lang/String"), (.object "java/lang/String")], none⟩ := by decide +kernel
theorem own_pd3 : parseMethodDescriptor "()V" = some ⟨[], none⟩ := by decide +kernel
theorem own_pd4 : parseMethodDescriptor "(Ljava/lang/String;III)V" = some ⟨[(.object "java/lang/String"), .int, .int, .int], none⟩ := by decide +kernel
theorem own_pd5 : parseMethodDescriptor "(Ljava/lang/String;Ljava/lang/String;IIII)V" = some ⟨[(.object "java/lang/String"), (.object "java/lang/String"), .int, .int, .int, .int], none⟩ := by decide +kernel
theorem own_pd6 : parseMethodDescriptor "(I)I" = some ⟨[.int], some .int⟩ := by decide +kernel
theorem d1_0 : decode prog_17_method_2_code 0 = .ok (.iload_n 1, 1) := by decide +kernel
theorem d1_1 : decode prog_17_method_2_code 1 = .ok (.iload_n 2, 1) := by decide +kernel
theorem d1_2 : decode prog_17_method_2_code 2 = .ok (.if_icmp .lt 8, 3) := by decide +kernel
theorem d1_5 : decode prog_17_method_2_code 5 = .ok (.iload_n 1, 1) := by decide +kernel
theorem d1_6 : decode prog_17_method_2_code 6 = .ok (.iload_n 3, 1) := by decide +kernel
theorem d1_7 : decode prog_17_method_2_code 7 = .ok (.if_icmp .le 43, 3) := by decide +kernel
theorem d1_50 : decode prog_17_method_2_code 50 = .ok (.return_, 1) := by decide +kernel
def own_R1 : Room := { frames := 0, cells := 0, slots := 0, locals := 0 }
theorem own_ef1 (p0 : Addr) (p1 : Int32) (p2 : Int32) (p3 : Int32) (m : MethodId) : entryFrame m #[(.ref p0), (.int p1), (.int p2), (.int p3)] 4 = mkF m 0 #[.val (.ref p0), .val (.int p1), .val (.int p2), .val (.int p3)] [] := by first | (simp [entryFrame, mkF, argsToLocals, Value.category]; done) | rfl
def own_Q1 (Z : State) (p0 : Addr) (p1 : Int32) (p2 : Int32) (p3 : Int32)  (h0 : Heap) (n0 : Nat) (v : Option Value) (h : Heap) (L : List Loc) : Prop := v = none ∧ Fr n0 L ∧ h = h0
set_option maxRecDepth 65536 in
set_option maxHeartbeats 40000000 in
theorem rm1 (l : Launch) (Z : State) (a0 : Array Value) (hw : ∀ d ∈ tables_1, d.before a0 Z = true) (ws : List Jvm.Cond) (p0 : Addr) (p1 : Int32) (p2 : Int32) (p3 : Int32)  (h0 : Heap) (n0 : Nat) (Z0 : n0 ≤ h0.size) (hya : ¬ (p1 < p2)) (hyb : ¬ (p3 < p1)) :
    MetFree l (⟨"com/example/escarmouche/escarmouche/rulesets/Bounds", "requireWithin", "(Ljava/lang/String;III)V"⟩ : MethodName) (head1 (Jvm.Cond.code (⟨"com/example/escarmouche/escarmouche/rulesets/Bounds", "requireWithin", "(Ljava/lang/String;III)V"⟩ : MethodName) prog_17_method_2_code 4 none :: ws) own_R1) (fun a U => a = #[(.ref p0), (.int p1), (.int p2), (.int p3)] ∧ Z.Warmed39 U.vm ∧ U.heap = h0) (fun _ _ _ _ _ => True) (fun _ U o U' => ∃ v L, o = .returned v ∧ own_Q1 Z p0 p1 p2 p3 h0 n0 v U'.heap L ∧ ReturnedEndW U o U' L own_R1.cells own_R1.slots) := by
  refine own_met (Q := own_Q1 Z p0 p1 p2 p3 h0 n0) (plainFor_of_name (by first | (simp [plainName, overriddenIn]; done) | decide +kernel)) (own_ef1 p0 p1 p2 p3) ?_
  intro p e s m below meth c T0 hx hby hml hown hnm hret hlk hZ e0 hN0 X0
  have N0 := Fr.nil n0
  refine own_up (S' := T0.setTop (mkF m 1 #[.val (.ref p0), .val (.int p1), .val (.int p2), .val (.int p3)] [(.int p1)])) (fun t stp => XS.iloadN X0.here hx rfl (hb hby d1_0) rfl stp) ?_
  refine own_up (S' := T0.setTop (mkF m 2 #[.val (.ref p0), .val (.int p1), .val (.int p2), .val (.int p3)] [(.int p2), (.int p1)])) (fun t stp => XS.iloadN X0.here hx rfl (hb hby d1_1) rfl stp) ?_
  have hc2_1 : ¬ (p1 < p2) := hya
  have ihc2_1 : p2.toInt ≤ p1.toInt := own_inl hc2_1
  refine own_up (S' := T0.setTop (mkF m 5 #[.val (.ref p0), .val (.int p1), .val (.int p2), .val (.int p3)] [])) (fun t stp => XS.icmpNo X0.here hx rfl (hb hby d1_2) rfl (XT.ii_lt_f hc2_1) stp) ?_
  refine own_up (S' := T0.setTop (mkF m 6 #[.val (.ref p0), .val (.int p1), .val (.int p2), .val (.int p3)] [(.int p1)])) (fun t stp => XS.iloadN X0.here hx rfl (hb hby d1_5) rfl stp) ?_
  refine own_up (S' := T0.setTop (mkF m 7 #[.val (.ref p0), .val (.int p1), .val (.int p2), .val (.int p3)] [(.int p3), (.int p1)])) (fun t stp => XS.iloadN X0.here hx rfl (hb hby d1_6) rfl stp) ?_
  have hc7_2 : ¬ (p3 < p1) := hyb
  have ihc7_2 : p1.toInt ≤ p3.toInt := own_inl hc7_2
  refine own_up (S' := T0.setTop (mkF m 50 #[.val (.ref p0), .val (.int p1), .val (.int p2), .val (.int p3)] [])) (fun t stp => XS.icmpYes X0.here hx rfl (pc0 := 7) (pc' := 50) rfl (hb hby d1_7) rfl (XT.ii_le_t hc7_2) (by decide) (by decide) stp) ?_
  refine own_retV X0 hx hlk hret (hb hby d1_50) hN0 e0 (by decide) (by decide) ?_
  show own_Q1 Z p0 p1 p2 p3 h0 n0 _ T0.heap _
  rw [e0]
  exact ⟨rfl, N0, rfl⟩
theorem d2_0 : decode jdk_31_method_11_code 0 = .ok (.aload_n 0, 1) := by decide +kernel
theorem d2_1 : decode jdk_31_method_11_code 1 = .ok (.ifnonnull 12, 3) := by decide +kernel
theorem d2_13 : decode jdk_31_method_11_code 13 = .ok (.aload_n 0, 1) := by decide +kernel
theorem d2_14 : decode jdk_31_method_11_code 14 = .ok (.areturn, 1) := by decide +kernel
def own_R2 : Room := { frames := 0, cells := 0, slots := 0, locals := 0 }
theorem own_ef2 (p0 : Addr) (p1 : Addr) (m : MethodId) : entryFrame m #[(.ref p0), (.ref p1)] 2 = mkF m 0 #[.val (.ref p0), .val (.ref p1)] [] := by first | (simp [entryFrame, mkF, argsToLocals, Value.category]; done) | rfl
def own_Q2 (Z : State) (p0 : Addr) (p1 : Addr)  (h0 : Heap) (n0 : Nat) (v : Option Value) (h : Heap) (L : List Loc) : Prop := v = some (.ref p0) ∧ Fr n0 L ∧ h = h0
set_option maxRecDepth 65536 in
set_option maxHeartbeats 40000000 in
theorem rm2 (l : Launch) (Z : State) (a0 : Array Value) (hw : ∀ d ∈ tables_1, d.before a0 Z = true) (ws : List Jvm.Cond) (p0 : Addr) (p1 : Addr)  (h0 : Heap) (n0 : Nat) (Z0 : n0 ≤ h0.size)  :
    MetFree l (⟨"java/util/Objects", "requireNonNull", "(Ljava/lang/Object;Ljava/lang/String;)Ljava/lang/Object;"⟩ : MethodName) (head1 (Jvm.Cond.code (⟨"java/util/Objects", "requireNonNull", "(Ljava/lang/Object;Ljava/lang/String;)Ljava/lang/Object;"⟩ : MethodName) jdk_31_method_11_code 2 (some (.object "java/lang/Object")) :: ws) own_R2) (fun a U => a = #[(.ref p0), (.ref p1)] ∧ Z.Warmed39 U.vm ∧ U.heap = h0) (fun _ _ _ _ _ => True) (fun _ U o U' => ∃ v L, o = .returned v ∧ own_Q2 Z p0 p1 h0 n0 v U'.heap L ∧ ReturnedEndW U o U' L own_R2.cells own_R2.slots) := by
  refine own_met (Q := own_Q2 Z p0 p1 h0 n0) (plainFor_of_name (by first | (simp [plainName, overriddenIn]; done) | decide +kernel)) (own_ef2 p0 p1) ?_
  intro p e s m below meth c T0 hx hby hml hown hnm hret hlk hZ e0 hN0 X0
  have N0 := Fr.nil n0
  refine own_up (S' := T0.setTop (mkF m 1 #[.val (.ref p0), .val (.ref p1)] [(.ref p0)])) (fun t stp => XS.aloadN X0.here hx rfl (hb hby d2_0) rfl rfl stp) ?_
  refine own_up (S' := T0.setTop (mkF m 13 #[.val (.ref p0), .val (.ref p1)] [])) (fun t stp => XT.ifnonnullYes X0.here hx rfl (pc0 := 1) (pc' := 13) rfl (hb hby d2_1) rfl (by decide) (by decide) stp) ?_
  refine own_up (S' := T0.setTop (mkF m 14 #[.val (.ref p0), .val (.ref p1)] [(.ref p0)])) (fun t stp => XS.aloadN X0.here hx rfl (hb hby d2_13) rfl rfl stp) ?_
  refine own_retA X0 hx hlk hret rfl rfl (hb hby d2_14) hN0 e0 (by decide) (by decide) ?_
  show own_Q2 Z p0 p1 h0 n0 _ T0.heap _
  rw [e0]
  exact ⟨rfl, N0, rfl⟩
theorem d3_0 : decode jdk_42_method_55_code 0 = .ok (.aload_n 0, 1) := by decide +kernel
theorem d3_1 : decode jdk_42_method_55_code 1 = .ok (.getfield 9, 3) := by decide +kernel
theorem d3_4 : decode jdk_42_method_55_code 4 = .ok (.arraylength, 1) := by decide +kernel
theorem d3_5 : decode jdk_42_method_55_code 5 = .ok (.ifCond .ne 7, 3) := by decide +kernel
theorem d3_12 : decode jdk_42_method_55_code 12 = .ok (.iconst 0, 1) := by decide +kernel
theorem d3_13 : decode jdk_42_method_55_code 13 = .ok (.ireturn, 1) := by decide +kernel
def own_R3 : Room := { frames := 0, cells := 0, slots := 0, locals := 0 }
theorem own_ef3 (oo : Addr) (m : MethodId) : entryFrame m #[(.ref oo)] 1 = mkF m 0 #[.val (.ref oo)] [] := by first | (simp [entryFrame, mkF, argsToLocals, Value.category]; done) | rfl
def own_Q3 (Z : State) (oo : Addr) (va : Addr) (c0 : Int32) (h0 : Heap) (n0 : Nat) (v : Option Value) (h : Heap) (L : List Loc) : Prop := v = some (.int (0 : Int32)) ∧ Fr n0 L ∧ h = h0
set_option maxRecDepth 65536 in
set_option maxHeartbeats 40000000 in
theorem rm3 (l : Launch) (Z : State) (a0 : Array Value) (hw : ∀ d ∈ tables_1, d.before a0 Z = true) (ws : List Jvm.Cond) (oo : Addr) (va : Addr) (c0 : Int32) (h0 : Heap) (n0 : Nat) (Z0 : n0 ≤ h0.size) (Fv : Fld Z h0 oo "java/lang/String" "value" "[B" (.ref va)) (Av : own_Al Z h0 va .byte [(.int c0)]) :
    MetFree l (⟨"java/lang/String", "isEmpty", "()Z"⟩ : MethodName) (head1 (Jvm.Cond.code (⟨"java/lang/String", "isEmpty", "()Z"⟩ : MethodName) jdk_42_method_55_code 1 (some .boolean) :: ws) own_R3) (fun a U => a = #[(.ref oo)] ∧ Z.Warmed39 U.vm ∧ U.heap = h0) (fun _ _ _ _ _ => True) (fun _ U o U' => ∃ v L, o = .returned v ∧ own_Q3 Z oo va c0 h0 n0 v U'.heap L ∧ ReturnedEndW U o U' L own_R3.cells own_R3.slots) := by
  refine own_met (Q := own_Q3 Z oo va c0 h0 n0) (plainFor_of_name (by first | (simp [plainName, overriddenIn]; done) | decide +kernel)) (own_ef3 oo) ?_
  intro p e s m below meth c T0 hx hby hml hown hnm hret hlk hZ e0 hN0 X0
  have N0 := Fr.nil n0
  refine own_up (S' := T0.setTop (mkF m 1 #[.val (.ref oo)] [(.ref oo)])) (fun t stp => XS.aloadN X0.here hx rfl (hb hby d3_0) rfl rfl stp) ?_
  refine own_get X0 hx hZ hown (hw _ (List.mem_of_getElem? (i := 41) rfl)) Via.refl e0 Fv (g' := (mkF m 4 #[.val (.ref oo)] [(.ref va)])) (hb hby d3_1) rfl rfl rfl ?_
  intro T1 X1 e1
  refine own_len X1 hx hZ e1 Av (1 : Int32) (hb hby d3_4) (rfl) rfl rfl (g' := (mkF m 5 #[.val (.ref oo)] [(.int (1 : Int32))])) rfl ?_
  have hc5_2 : ¬ ((1 : Int32) = 0) := by decide
  refine own_up (S' := T1.setTop (mkF m 12 #[.val (.ref oo)] [])) (fun t stp => XS.ifYes X1.here hx rfl (pc0 := 5) (pc' := 12) rfl (hb hby d3_5) rfl (XT.i0_ne_t hc5_2) (by decide) (by decide) stp) ?_
  refine own_up (S' := T1.setTop (mkF m 13 #[.val (.ref oo)] [(.int (0 : Int32))])) (fun t stp => XT.iconstV X1.here hx rfl (0 : Int32) (hb hby d3_12) rfl stp) ?_
  refine own_retN X1 hx hlk (t := .boolean) hret (by simp) (z' := (0 : Int32)) rfl (hb hby d3_13) hN0 e1 (by decide) (by decide) ?_
  show own_Q3 Z oo va c0 h0 n0 _ T1.heap _
  rw [e1]
  exact ⟨rfl, N0, rfl⟩
theorem d4_0 : decode prog_18_method_6_code 0 = .ok (.aload_n 1, 1) := by decide +kernel
theorem d4_1 : decode prog_18_method_6_code 1 = .ok (.aload_n 0, 1) := by decide +kernel
theorem d4_2 : decode prog_18_method_6_code 2 = .ok (.invokestatic 79, 3) := by decide +kernel
theorem d4_5 : decode prog_18_method_6_code 5 = .ok (.pop, 1) := by decide +kernel
theorem d4_6 : decode prog_18_method_6_code 6 = .ok (.aload_n 1, 1) := by decide +kernel
theorem d4_7 : decode prog_18_method_6_code 7 = .ok (.invokevirtual 85, 3) := by decide +kernel
theorem d4_10 : decode prog_18_method_6_code 10 = .ok (.ifCond .eq 22, 3) := by decide +kernel
theorem d4_32 : decode prog_18_method_6_code 32 = .ok (.return_, 1) := by decide +kernel
def own_R4 : Room := { frames := 1, cells := 0, slots := 0, locals := 13 }
theorem own_ef4 (p0 : Addr) (p1 : Addr) (m : MethodId) : entryFrame m #[(.ref p0), (.ref p1)] 2 = mkF m 0 #[.val (.ref p0), .val (.ref p1)] [] := by first | (simp [entryFrame, mkF, argsToLocals, Value.category]; done) | rfl
def own_Q4 (Z : State) (p0 : Addr) (p1 : Addr) (va : Addr) (c0 : Int32) (h0 : Heap) (n0 : Nat) (v : Option Value) (h : Heap) (L : List Loc) : Prop := v = none ∧ Fr n0 L ∧ h = h0
set_option maxRecDepth 65536 in
set_option maxHeartbeats 40000000 in
theorem rm4 (l : Launch) (Z : State) (a0 : Array Value) (hw : ∀ d ∈ tables_1, d.before a0 Z = true) (ws : List Jvm.Cond) (p0 : Addr) (p1 : Addr) (va : Addr) (c0 : Int32) (h0 : Heap) (n0 : Nat) (Z0 : n0 ≤ h0.size) (Ep : Exa Z h0 p1 "java/lang/String") (Fv : Fld Z h0 p1 "java/lang/String" "value" "[B" (.ref va)) (Av : own_Al Z h0 va .byte [(.int c0)]) :
    MetFree l (⟨"com/example/escarmouche/escarmouche/rulesets/Combatants", "requireNotEmpty", "(Ljava/lang/String;Ljava/lang/String;)V"⟩ : MethodName) (head1 (Jvm.Cond.code (⟨"com/example/escarmouche/escarmouche/rulesets/Combatants", "requireNotEmpty", "(Ljava/lang/String;Ljava/lang/String;)V"⟩ : MethodName) prog_18_method_6_code 2 none :: ws) own_R4) (fun a U => a = #[(.ref p0), (.ref p1)] ∧ Z.Warmed39 U.vm ∧ U.heap = h0) (fun _ _ _ _ _ => True) (fun _ U o U' => ∃ v L, o = .returned v ∧ own_Q4 Z p0 p1 va c0 h0 n0 v U'.heap L ∧ ReturnedEndW U o U' L own_R4.cells own_R4.slots) := by
  refine own_met (Q := own_Q4 Z p0 p1 va c0 h0 n0) (plainFor_of_name (by first | (simp [plainName, overriddenIn]; done) | decide +kernel)) (own_ef4 p0 p1) ?_
  intro p e s m below meth c T0 hx hby hml hown hnm hret hlk hZ e0 hN0 X0
  have N0 := Fr.nil n0
  refine own_up (S' := T0.setTop (mkF m 1 #[.val (.ref p0), .val (.ref p1)] [(.ref p1)])) (fun t stp => XS.aloadN X0.here hx rfl (hb hby d4_0) rfl rfl stp) ?_
  refine own_up (S' := T0.setTop (mkF m 2 #[.val (.ref p0), .val (.ref p1)] [(.ref p0), (.ref p1)])) (fun t stp => XS.aloadN X0.here hx rfl (hb hby d4_1) rfl rfl stp) ?_
  refine own_callS X0 hx hZ hown (hw _ (List.mem_of_getElem? (i := 32) rfl)) (hw _ (List.mem_of_getElem? (i := 33) rfl)) (hw _ (List.mem_of_getElem? (i := 34) rfl)) (hw _ (List.mem_of_getElem? (i := 35) rfl)) (by decide) e0 hN0 (rm2 l Z a0 hw [] p1 p0 h0 n0 Z0 ) 0 [(.ref p1), (.ref p0)] [] (hb hby d4_2) (lenOf own_pd0 rfl) (by decide) (by decide) (by decide) (by decide) rfl (by rw [hml]; rfl) rfl (by show 2 * 0 + _ ≤ _; exact Nat.le_of_eq rfl) rfl ?_
  intro T1 L1 r1 s1 hN1 hV1 hZ1 hown1 X1 q1
  obtain ⟨rfl, M1, e1⟩ := q1
  rw [e1] at hN1
  have N1 := Fr.app N0 M1
  show own_Ends p e below s (own_Q4 Z p0 p1 va c0 h0 n0) own_R4.cells own_R4.slots (T1.setTop (mkF m 5 #[.val (.ref p0), .val (.ref p1)] [(.ref p1)]))
  refine own_up (S' := T1.setTop (mkF m 6 #[.val (.ref p0), .val (.ref p1)] [])) (fun t stp => XT.pop X1.here hx rfl (hb hby d4_5) rfl rfl stp) ?_
  refine own_up (S' := T1.setTop (mkF m 7 #[.val (.ref p0), .val (.ref p1)] [(.ref p1)])) (fun t stp => XS.aloadN X1.here hx rfl (hb hby d4_6) rfl rfl stp) ?_
  refine own_callV X1 hx hZ1 hown1 (hw _ (List.mem_of_getElem? (i := 36) rfl)) (hw _ (List.mem_of_getElem? (i := 37) rfl)) (hw _ (List.mem_of_getElem? (i := 39) rfl)) (hw _ (List.mem_of_getElem? (i := 38) rfl)) (hw _ (List.mem_of_getElem? (i := 5) rfl)) (hw _ (List.mem_of_getElem? (i := 40) rfl)) (by decide) e1 hN1 (rm3 l Z a0 hw [] p1 va c0 h0 n0 Z0 Fv Av) 0 Ep [] [] (hb hby d4_7) (lenOf own_pd1 rfl) (by decide) (by decide) (by decide) (by decide) rfl (by rw [hml]; rfl) rfl (by show 2 * 0 + _ ≤ _; exact Nat.le_of_eq rfl) rfl ?_
  intro T2 L2 r2 s2 hN2 hV2 hZ2 hown2 X2 q2
  obtain ⟨rfl, M2, e2⟩ := q2
  rw [e2] at hN2
  have N2 := Fr.app N1 M2
  show own_Ends p e below s (own_Q4 Z p0 p1 va c0 h0 n0) own_R4.cells own_R4.slots (T2.setTop (mkF m 10 #[.val (.ref p0), .val (.ref p1)] [(.int (0 : Int32))]))
  have hc10_3 : (0 : Int32) = 0 := by decide
  refine own_up (S' := T2.setTop (mkF m 32 #[.val (.ref p0), .val (.ref p1)] [])) (fun t stp => XS.ifYes X2.here hx rfl (pc0 := 10) (pc' := 32) rfl (hb hby d4_10) rfl (XT.i0_eq_t hc10_3) (by decide) (by decide) stp) ?_
  refine own_retV X2 hx hlk hret (hb hby d4_32) hN2 e2 (by decide) (by decide) ?_
  show own_Q4 Z p0 p1 va c0 h0 n0 _ T2.heap _
  rw [e2]
  exact ⟨rfl, N2, rfl⟩
theorem d5_0 : decode prog_18_method_2_code 0 = .ok (.ldc 7, 2) := by decide +kernel
theorem d5_2 : decode prog_18_method_2_code 2 = .ok (.aload_n 0, 1) := by decide +kernel
theorem d5_3 : decode prog_18_method_2_code 3 = .ok (.invokestatic 9, 3) := by decide +kernel
theorem d5_6 : decode prog_18_method_2_code 6 = .ok (.ldc 15, 2) := by decide +kernel
theorem d5_8 : decode prog_18_method_2_code 8 = .ok (.aload_n 1, 1) := by decide +kernel
theorem d5_9 : decode prog_18_method_2_code 9 = .ok (.invokestatic 9, 3) := by decide +kernel
theorem d5_12 : decode prog_18_method_2_code 12 = .ok (.return_, 1) := by decide +kernel
def own_R5 : Room := { frames := 2, cells := 4, slots := 32, locals := 26 }
theorem own_ef5 (p0 : Addr) (p1 : Addr) (m : MethodId) : entryFrame m #[(.ref p0), (.ref p1)] 2 = mkF m 0 #[.val (.ref p0), .val (.ref p1)] [] := by first | (simp [entryFrame, mkF, argsToLocals, Value.category]; done) | rfl
def own_Q5 (Z : State) (p0 : Addr) (p1 : Addr) (va : Addr) (c0 : Int32) (vb : Addr) (c1 : Int32) (h0 : Heap) (n0 : Nat) (v : Option Value) (h : Heap) (L : List Loc) : Prop := v = none ∧ Fr n0 L ∧ Keep h0 h []
set_option maxRecDepth 65536 in
set_option maxHeartbeats 40000000 in
theorem rm5 (l : Launch) (Z : State) (a0 : Array Value) (hw : ∀ d ∈ tables_1, d.before a0 Z = true) (ws : List Jvm.Cond) (p0 : Addr) (p1 : Addr) (va : Addr) (c0 : Int32) (vb : Addr) (c1 : Int32) (h0 : Heap) (n0 : Nat) (Z0 : n0 ≤ h0.size) (Ep : Exa Z h0 p0 "java/lang/String") (Fv : Fld Z h0 p0 "java/lang/String" "value" "[B" (.ref va)) (Av : own_Al Z h0 va .byte [(.int c0)]) (Eq : Exa Z h0 p1 "java/lang/String") (Fw : Fld Z h0 p1 "java/lang/String" "value" "[B" (.ref vb)) (Aw : own_Al Z h0 vb .byte [(.int c1)]) :
    MetFree l (⟨"com/example/escarmouche/escarmouche/rulesets/Combatants", "requireIdAndSide", "(Ljava/lang/String;Ljava/lang/String;)V"⟩ : MethodName) (head1 (Jvm.Cond.code (⟨"com/example/escarmouche/escarmouche/rulesets/Combatants", "requireIdAndSide", "(Ljava/lang/String;Ljava/lang/String;)V"⟩ : MethodName) prog_18_method_2_code 2 none :: ws) own_R5) (fun a U => a = #[(.ref p0), (.ref p1)] ∧ Z.Warmed39 U.vm ∧ U.heap = h0) (fun _ _ _ _ _ => True) (fun _ U o U' => ∃ v L, o = .returned v ∧ own_Q5 Z p0 p1 va c0 vb c1 h0 n0 v U'.heap L ∧ ReturnedEndW U o U' L own_R5.cells own_R5.slots) := by
  refine own_met (Q := own_Q5 Z p0 p1 va c0 vb c1 h0 n0) (plainFor_of_name (by first | (simp [plainName, overriddenIn]; done) | decide +kernel)) (own_ef5 p0 p1) ?_
  intro p e s m below meth c T0 hx hby hml hown hnm hret hlk hZ e0 hN0 X0
  have N0 := Fr.nil n0
  refine own_ldcs X0 hx hZ hown (hw _ (List.mem_of_getElem? (i := 28) rfl)) (fun d hd => hw d (own_sub d hd)) e0 hN0 8 (hb hby d5_0) (by decide) (by decide) (by decide) (by decide) rfl ?_
  intro sg1 T1 h1 s1 hN1 hV1 hZ1 hown1 X1 e1 E1
  have Zn2 := Nat.le_trans Z0 E1.1
  have Ep_3 := Ep.ext E1
  have Fv_3 := Fv.ext E1
  have Av_3 := own_Al_ext E1 Av
  have Eq_3 := Eq.ext E1
  have Fw_3 := Fw.ext E1
  have Aw_3 := own_Al_ext E1 Aw
  have Kp4 := (Keep.refl h0 []).ext E1
  show own_Ends p e below s (own_Q5 Z p0 p1 va c0 vb c1 h0 n0) own_R5.cells own_R5.slots (T1.setTop (mkF m 2 #[.val (.ref p0), .val (.ref p1)] [(.ref sg1)]))
  refine own_up (S' := T1.setTop (mkF m 3 #[.val (.ref p0), .val (.ref p1)] [(.ref p0), (.ref sg1)])) (fun t stp => XS.aloadN X1.here hx rfl (hb hby d5_2) rfl rfl stp) ?_
  refine own_callS X1 hx hZ1 hown1 (hw _ (List.mem_of_getElem? (i := 29) rfl)) (hw _ (List.mem_of_getElem? (i := 30) rfl)) (hw _ (List.mem_of_getElem? (i := 26) rfl)) (hw _ (List.mem_of_getElem? (i := 31) rfl)) (by decide) e1 hN1 (rm4 l Z a0 hw [] sg1 p0 va c0 h1 n0 Zn2 Ep_3 Fv_3 Av_3) 0 [(.ref sg1), (.ref p0)] [] (hb hby d5_3) (lenOf own_pd2 rfl) (by decide) (by decide) (by decide) (by decide) rfl (by rw [hml]; rfl) rfl (by show 2 * 0 + _ ≤ _; exact Nat.le_of_eq rfl) rfl ?_
  intro T5 L5 r5 s5 hN5 hV5 hZ5 hown5 X5 q5
  obtain ⟨rfl, M5, e5⟩ := q5
  rw [e5] at hN5
  have N5 := Fr.app N0 M5
  show own_Ends p e below s (own_Q5 Z p0 p1 va c0 vb c1 h0 n0) own_R5.cells own_R5.slots (T5.setTop (mkF m 6 #[.val (.ref p0), .val (.ref p1)] []))
  refine own_ldcs X5 hx hZ5 hown5 (hw _ (List.mem_of_getElem? (i := 42) rfl)) (fun d hd => hw d (own_sub d hd)) e5 hN5 16 (hb hby d5_6) (by decide) (by decide) (by decide) (by decide) rfl ?_
  intro sg6 T6 h6 s6 hN6 hV6 hZ6 hown6 X6 e6 E6
  have Zn7 := Nat.le_trans Zn2 E6.1
  have Ep_8 := Ep_3.ext E6
  have Fv_8 := Fv_3.ext E6
  have Av_8 := own_Al_ext E6 Av_3
  have Eq_8 := Eq_3.ext E6
  have Fw_8 := Fw_3.ext E6
  have Aw_8 := own_Al_ext E6 Aw_3
  have Kp9 := Kp4.ext E6
  show own_Ends p e below s (own_Q5 Z p0 p1 va c0 vb c1 h0 n0) own_R5.cells own_R5.slots (T6.setTop (mkF m 8 #[.val (.ref p0), .val (.ref p1)] [(.ref sg6)]))
  refine own_up (S' := T6.setTop (mkF m 9 #[.val (.ref p0), .val (.ref p1)] [(.ref p1), (.ref sg6)])) (fun t stp => XS.aloadN X6.here hx rfl (hb hby d5_8) rfl rfl stp) ?_
  refine own_callS X6 hx hZ6 hown6 (hw _ (List.mem_of_getElem? (i := 29) rfl)) (hw _ (List.mem_of_getElem? (i := 30) rfl)) (hw _ (List.mem_of_getElem? (i := 26) rfl)) (hw _ (List.mem_of_getElem? (i := 31) rfl)) (by decide) e6 hN6 (rm4 l Z a0 hw [] sg6 p1 vb c1 h6 n0 Zn7 Eq_8 Fw_8 Aw_8) 0 [(.ref sg6), (.ref p1)] [] (hb hby d5_9) (lenOf own_pd2 rfl) (by decide) (by decide) (by decide) (by decide) rfl (by rw [hml]; rfl) rfl (by show 2 * 0 + _ ≤ _; exact Nat.le_of_eq rfl) rfl ?_
  intro T10 L10 r10 s10 hN10 hV10 hZ10 hown10 X10 q10
  obtain ⟨rfl, M10, e10⟩ := q10
  rw [e10] at hN10
  have N10 := Fr.app N5 M10
  show own_Ends p e below s (own_Q5 Z p0 p1 va c0 vb c1 h0 n0) own_R5.cells own_R5.slots (T10.setTop (mkF m 12 #[.val (.ref p0), .val (.ref p1)] []))
  refine own_retV X10 hx hlk hret (hb hby d5_12) hN10 e10 (by decide) (by decide) ?_
  show own_Q5 Z p0 p1 va c0 vb c1 h0 n0 _ T10.heap _
  rw [e10]
  exact ⟨rfl, N10, Kp9⟩
theorem d6_0 : decode jdk_30_method_1_code 0 = .ok (.aload_n 0, 1) := by decide +kernel
theorem d6_1 : decode jdk_30_method_1_code 1 = .ok (.invokespecial 1, 3) := by decide +kernel
theorem d6_4 : decode jdk_30_method_1_code 4 = .ok (.return_, 1) := by decide +kernel
def own_R6 : Room := { frames := 1, cells := 0, slots := 0, locals := 12 }
theorem own_ef6 (oo : Addr) (m : MethodId) : entryFrame m #[(.ref oo)] 1 = mkF m 0 #[.val (.ref oo)] [] := by first | (simp [entryFrame, mkF, argsToLocals, Value.category]; done) | rfl
def own_Q6 (Z : State) (oo : Addr)  (h0 : Heap) (n0 : Nat) (v : Option Value) (h : Heap) (L : List Loc) : Prop := v = none ∧ Fr n0 L ∧ h = h0
set_option maxRecDepth 65536 in
set_option maxHeartbeats 40000000 in
theorem rm6 (l : Launch) (Z : State) (a0 : Array Value) (hw : ∀ d ∈ tables_1, d.before a0 Z = true) (ws : List Jvm.Cond) (oo : Addr)  (h0 : Heap) (n0 : Nat) (Z0 : n0 ≤ h0.size)  :
    MetFree l (⟨"java/lang/Record", "<init>", "()V"⟩ : MethodName) (head1 (Jvm.Cond.code (⟨"java/lang/Record", "<init>", "()V"⟩ : MethodName) jdk_30_method_1_code 1 none :: ws) own_R6) (fun a U => a = #[(.ref oo)] ∧ Z.Warmed39 U.vm ∧ U.heap = h0) (fun _ _ _ _ _ => True) (fun _ U o U' => ∃ v L, o = .returned v ∧ own_Q6 Z oo h0 n0 v U'.heap L ∧ ReturnedEndW U o U' L own_R6.cells own_R6.slots) := by
  refine own_met (Q := own_Q6 Z oo h0 n0) (plainFor_of_name (by first | (simp [plainName, overriddenIn]; done) | decide +kernel)) (own_ef6 oo) ?_
  intro p e s m below meth c T0 hx hby hml hown hnm hret hlk hZ e0 hN0 X0
  have N0 := Fr.nil n0
  refine own_up (S' := T0.setTop (mkF m 1 #[.val (.ref oo)] [(.ref oo)])) (fun t stp => XS.aloadN X0.here hx rfl (hb hby d6_0) rfl rfl stp) ?_
  refine own_init X0 hx hZ hown (hw _ (List.mem_of_getElem? (i := 21) rfl)) (hw _ (List.mem_of_getElem? (i := 22) rfl)) (hw _ (List.mem_of_getElem? (i := 23) rfl)) e0 0 (g' := (mkF m 4 #[.val (.ref oo)] [])) (hb hby d6_1) (by decide) (by decide) rfl (by rw [hml]; rfl) rfl (by show 2 * 0 + _ ≤ _; exact Nat.le_of_eq rfl) rfl ?_
  intro T1 X1 e1
  refine own_retV X1 hx hlk hret (hb hby d6_4) hN0 e1 (by decide) (by decide) ?_
  show own_Q6 Z oo h0 n0 _ T1.heap _
  rw [e1]
  exact ⟨rfl, N0, rfl⟩
theorem d7_0 : decode prog_44_method_1_code 0 = .ok (.aload_n 0, 1) := by decide +kernel
theorem d7_1 : decode prog_44_method_1_code 1 = .ok (.invokespecial 1, 3) := by decide +kernel
theorem d7_4 : decode prog_44_method_1_code 4 = .ok (.aload_n 1, 1) := by decide +kernel
theorem d7_5 : decode prog_44_method_1_code 5 = .ok (.aload_n 2, 1) := by decide +kernel
theorem d7_6 : decode prog_44_method_1_code 6 = .ok (.invokestatic 7, 3) := by decide +kernel
theorem d7_9 : decode prog_44_method_1_code 9 = .ok (.ldc 13, 2) := by decide +kernel
theorem d7_11 : decode prog_44_method_1_code 11 = .ok (.iload_n 3, 1) := by decide +kernel
theorem d7_12 : decode prog_44_method_1_code 12 = .ok (.iconst 0, 1) := by decide +kernel
theorem d7_13 : decode prog_44_method_1_code 13 = .ok (.sipush 1000, 3) := by decide +kernel
theorem d7_16 : decode prog_44_method_1_code 16 = .ok (.invokestatic 17, 3) := by decide +kernel
theorem d7_19 : decode prog_44_method_1_code 19 = .ok (.ldc 23, 2) := by decide +kernel
theorem d7_21 : decode prog_44_method_1_code 21 = .ok (.iload 4, 2) := by decide +kernel
theorem d7_23 : decode prog_44_method_1_code 23 = .ok (.iconst 0, 1) := by decide +kernel
theorem d7_24 : decode prog_44_method_1_code 24 = .ok (.sipush 1000, 3) := by decide +kernel
theorem d7_27 : decode prog_44_method_1_code 27 = .ok (.invokestatic 17, 3) := by decide +kernel
theorem d7_30 : decode prog_44_method_1_code 30 = .ok (.ldc 25, 2) := by decide +kernel
theorem d7_32 : decode prog_44_method_1_code 32 = .ok (.iload 5, 2) := by decide +kernel
theorem d7_34 : decode prog_44_method_1_code 34 = .ok (.sipush (-1000), 3) := by decide +kernel
theorem d7_37 : decode prog_44_method_1_code 37 = .ok (.sipush 1000, 3) := by decide +kernel
theorem d7_40 : decode prog_44_method_1_code 40 = .ok (.invokestatic 17, 3) := by decide +kernel
theorem d7_43 : decode prog_44_method_1_code 43 = .ok (.ldc 27, 2) := by decide +kernel
theorem d7_45 : decode prog_44_method_1_code 45 = .ok (.iload 6, 2) := by decide +kernel
theorem d7_47 : decode prog_44_method_1_code 47 = .ok (.iconst 0, 1) := by decide +kernel
theorem d7_48 : decode prog_44_method_1_code 48 = .ok (.sipush 1000, 3) := by decide +kernel
theorem d7_51 : decode prog_44_method_1_code 51 = .ok (.invokestatic 17, 3) := by decide +kernel
theorem d7_54 : decode prog_44_method_1_code 54 = .ok (.aload_n 0, 1) := by decide +kernel
theorem d7_55 : decode prog_44_method_1_code 55 = .ok (.aload_n 1, 1) := by decide +kernel
theorem d7_56 : decode prog_44_method_1_code 56 = .ok (.putfield 29, 3) := by decide +kernel
theorem d7_59 : decode prog_44_method_1_code 59 = .ok (.aload_n 0, 1) := by decide +kernel
theorem d7_60 : decode prog_44_method_1_code 60 = .ok (.aload_n 2, 1) := by decide +kernel
theorem d7_61 : decode prog_44_method_1_code 61 = .ok (.putfield 33, 3) := by decide +kernel
theorem d7_64 : decode prog_44_method_1_code 64 = .ok (.aload_n 0, 1) := by decide +kernel
theorem d7_65 : decode prog_44_method_1_code 65 = .ok (.iload_n 3, 1) := by decide +kernel
theorem d7_66 : decode prog_44_method_1_code 66 = .ok (.putfield 36, 3) := by decide +kernel
theorem d7_69 : decode prog_44_method_1_code 69 = .ok (.aload_n 0, 1) := by decide +kernel
theorem d7_70 : decode prog_44_method_1_code 70 = .ok (.iload 4, 2) := by decide +kernel
theorem d7_72 : decode prog_44_method_1_code 72 = .ok (.putfield 39, 3) := by decide +kernel
theorem d7_75 : decode prog_44_method_1_code 75 = .ok (.aload_n 0, 1) := by decide +kernel
theorem d7_76 : decode prog_44_method_1_code 76 = .ok (.iload 5, 2) := by decide +kernel
theorem d7_78 : decode prog_44_method_1_code 78 = .ok (.putfield 41, 3) := by decide +kernel
theorem d7_81 : decode prog_44_method_1_code 81 = .ok (.aload_n 0, 1) := by decide +kernel
theorem d7_82 : decode prog_44_method_1_code 82 = .ok (.iload 6, 2) := by decide +kernel
theorem d7_84 : decode prog_44_method_1_code 84 = .ok (.putfield 43, 3) := by decide +kernel
theorem d7_87 : decode prog_44_method_1_code 87 = .ok (.return_, 1) := by decide +kernel
def own_R7 : Room := { frames := 3, cells := 12, slots := 180, locals := 39 }
theorem own_ef7 (oo : Addr) (p1 : Addr) (p2 : Addr) (p3 : Int32) (p4 : Int32) (p5 : Int32) (p6 : Int32) (m : MethodId) : entryFrame m #[(.ref oo), (.ref p1), (.ref p2), (.int p3), (.int p4), (.int p5), (.int p6)] 7 = mkF m 0 #[.val (.ref oo), .val (.ref p1), .val (.ref p2), .val (.int p3), .val (.int p4), .val (.int p5), .val (.int p6)] [] := by first | (simp [entryFrame, mkF, argsToLocals, Value.category]; done) | rfl
def own_Q7 (Z : State) (oo : Addr) (p1 : Addr) (p2 : Addr) (p3 : Int32) (p4 : Int32) (p5 : Int32) (p6 : Int32) (va : Addr) (c0 : Int32) (vb : Addr) (c1 : Int32) (h0 : Heap) (n0 : Nat) (v : Option Value) (h : Heap) (L : List Loc) : Prop := v = none ∧ Fr n0 L ∧ Keep h0 h [oo] ∧ Fld Z h oo "com/example/escarmouche/escarmouche/rulesets/cyberpunk2020/Combatant" "ref" "I" (.int p3) ∧ Fld Z h oo "com/example/escarmouche/escarmouche/rulesets/cyberpunk2020/Combatant" "combatSense" "I" (.int p4) ∧ Fld Z h oo "com/example/escarmouche/escarmouche/rulesets/cyberpunk2020/Combatant" "initiativeBonus" "I" (.int p5)
set_option maxRecDepth 65536 in
set_option maxHeartbeats 40000000 in
theorem rm7 (l : Launch) (Z : State) (a0 : Array Value) (hw : ∀ d ∈ tables_1, d.before a0 Z = true) (ws : List Jvm.Cond) (oo : Addr) (p1 : Addr) (p2 : Addr) (p3 : Int32) (p4 : Int32) (p5 : Int32) (p6 : Int32) (va : Addr) (c0 : Int32) (vb : Addr) (c1 : Int32) (h0 : Heap) (n0 : Nat) (Z0 : n0 ≤ h0.size) (F0id : Fld Z h0 oo "com/example/escarmouche/escarmouche/rulesets/cyberpunk2020/Combatant" "id" "Ljava/lang/String;" .null) (F0sid : Fld Z h0 oo "com/example/escarmouche/escarmouche/rulesets/cyberpunk2020/Combatant" "side" "Ljava/lang/String;" .null) (F0ref : Fld Z h0 oo "com/example/escarmouche/escarmouche/rulesets/cyberpunk2020/Combatant" "ref" "I" (.int (0 : Int32))) (F0com : Fld Z h0 oo "com/example/escarmouche/escarmouche/rulesets/cyberpunk2020/Combatant" "combatSense" "I" (.int (0 : Int32))) (F0ini : Fld Z h0 oo "com/example/escarmouche/escarmouche/rulesets/cyberpunk2020/Combatant" "initiativeBonus" "I" (.int (0 : Int32))) (F0mou : Fld Z h0 oo "com/example/escarmouche/escarmouche/rulesets/cyberpunk2020/Combatant" "mouv" "I" (.int (0 : Int32))) (Et : Exa Z h0 oo "com/example/escarmouche/escarmouche/rulesets/cyberpunk2020/Combatant") (gt : n0 ≤ oo) (Ep : Exa Z h0 p1 "java/lang/String") (Fv : Fld Z h0 p1 "java/lang/String" "value" "[B" (.ref va)) (Av : own_Al Z h0 va .byte [(.int c0)]) (Eq : Exa Z h0 p2 "java/lang/String") (Fw : Fld Z h0 p2 "java/lang/String" "value" "[B" (.ref vb)) (Aw : own_Al Z h0 vb .byte [(.int c1)]) (hyp3 : ¬ (p3 < (0 : Int32))) (hzp3 : ¬ ((1000 : Int32) < p3)) (hyp4 : ¬ (p4 < (0 : Int32))) (hzp4 : ¬ ((1000 : Int32) < p4)) (hyp5 : ¬ (p5 < (-1000 : Int32))) (hzp5 : ¬ ((1000 : Int32) < p5)) (hyp6 : ¬ (p6 < (0 : Int32))) (hzp6 : ¬ ((1000 : Int32) < p6)) :
    MetFree l (⟨"com/example/escarmouche/escarmouche/rulesets/cyberpunk2020/Combatant", "<init>", "(Ljava/lang/String;Ljava/lang/String;IIII)V"⟩ : MethodName) (head1 (Jvm.Cond.code (⟨"com/example/escarmouche/escarmouche/rulesets/cyberpunk2020/Combatant", "<init>", "(Ljava/lang/String;Ljava/lang/String;IIII)V"⟩ : MethodName) prog_44_method_1_code 7 none :: ws) own_R7) (fun a U => a = #[(.ref oo), (.ref p1), (.ref p2), (.int p3), (.int p4), (.int p5), (.int p6)] ∧ Z.Warmed39 U.vm ∧ U.heap = h0) (fun _ _ _ _ _ => True) (fun _ U o U' => ∃ v L, o = .returned v ∧ own_Q7 Z oo p1 p2 p3 p4 p5 p6 va c0 vb c1 h0 n0 v U'.heap L ∧ ReturnedEndW U o U' L own_R7.cells own_R7.slots) := by
  refine own_met (Q := own_Q7 Z oo p1 p2 p3 p4 p5 p6 va c0 vb c1 h0 n0) (plainFor_of_name (by first | (simp [plainName, overriddenIn]; done) | decide +kernel)) (own_ef7 oo p1 p2 p3 p4 p5 p6) ?_
  intro p e s m below meth c T0 hx hby hml hown hnm hret hlk hZ e0 hN0 X0
  have N0 := Fr.nil n0
  refine own_up (S' := T0.setTop (mkF m 1 #[.val (.ref oo), .val (.ref p1), .val (.ref p2), .val (.int p3), .val (.int p4), .val (.int p5), .val (.int p6)] [(.ref oo)])) (fun t stp => XS.aloadN X0.here hx rfl (hb hby d7_0) rfl rfl stp) ?_
  refine own_callI X0 hx hZ rfl hown (hw _ (List.mem_of_getElem? (i := 16) rfl)) (hw _ (List.mem_of_getElem? (i := 17) rfl)) (hw _ (List.mem_of_getElem? (i := 19) rfl)) (hw _ (List.mem_of_getElem? (i := 20) rfl)) (by decide) e0 hN0 (rm6 l Z a0 hw [] oo h0 n0 Z0 ) 0 oo [] [] (hb hby d7_1) (lenOf own_pd3 rfl) (by decide) (by decide) (by decide) (by decide) rfl (by rw [hml]; rfl) rfl (by show 2 * 0 + _ ≤ _; exact Nat.le_of_eq rfl) rfl ?_
  intro T1 L1 r1 s1 hN1 hV1 hZ1 hown1 X1 q1
  obtain ⟨rfl, M1, e1⟩ := q1
  rw [e1] at hN1
  have N1 := Fr.app N0 M1
  show own_Ends p e below s (own_Q7 Z oo p1 p2 p3 p4 p5 p6 va c0 vb c1 h0 n0) own_R7.cells own_R7.slots (T1.setTop (mkF m 4 #[.val (.ref oo), .val (.ref p1), .val (.ref p2), .val (.int p3), .val (.int p4), .val (.int p5), .val (.int p6)] []))
  refine own_up (S' := T1.setTop (mkF m 5 #[.val (.ref oo), .val (.ref p1), .val (.ref p2), .val (.int p3), .val (.int p4), .val (.int p5), .val (.int p6)] [(.ref p1)])) (fun t stp => XS.aloadN X1.here hx rfl (hb hby d7_4) rfl rfl stp) ?_
  refine own_up (S' := T1.setTop (mkF m 6 #[.val (.ref oo), .val (.ref p1), .val (.ref p2), .val (.int p3), .val (.int p4), .val (.int p5), .val (.int p6)] [(.ref p2), (.ref p1)])) (fun t stp => XS.aloadN X1.here hx rfl (hb hby d7_5) rfl rfl stp) ?_
  refine own_callS X1 hx hZ1 hown1 (hw _ (List.mem_of_getElem? (i := 24) rfl)) (hw _ (List.mem_of_getElem? (i := 25) rfl)) (hw _ (List.mem_of_getElem? (i := 26) rfl)) (hw _ (List.mem_of_getElem? (i := 27) rfl)) (by decide) e1 hN1 (rm5 l Z a0 hw [] p1 p2 va c0 vb c1 h0 n0 Z0 Ep Fv Av Eq Fw Aw) 0 [(.ref p1), (.ref p2)] [] (hb hby d7_6) (lenOf own_pd2 rfl) (by decide) (by decide) (by decide) (by decide) rfl (by rw [hml]; rfl) rfl (by show 2 * 0 + _ ≤ _; exact Nat.le_of_eq rfl) rfl ?_
  intro T2 L2 r2 s2 hN2 hV2 hZ2 hown2 X2 q2
  obtain ⟨rfl, M2, K2⟩ := q2
  have N2 := Fr.app N1 M2
  have Zn3 := Nat.le_trans Z0 K2.1
  have Kp4 := (Keep.refl h0 [oo]).trans K2 all0
  have F0id_5 := F0id.keep K2 nin0
  have F0sid_5 := F0sid.keep K2 nin0
  have F0ref_5 := F0ref.keep K2 nin0
  have F0com_5 := F0com.keep K2 nin0
  have F0ini_5 := F0ini.keep K2 nin0
  have F0mou_5 := F0mou.keep K2 nin0
  have Et_5 := Et.keep K2
  have Ep_5 := Ep.keep K2
  have Fv_5 := Fv.keep K2 nin0
  have Av_5 := own_Al_keep K2 Av nin0
  have Eq_5 := Eq.keep K2
  have Fw_5 := Fw.keep K2 nin0
  have Aw_5 := own_Al_keep K2 Aw nin0
  show own_Ends p e below s (own_Q7 Z oo p1 p2 p3 p4 p5 p6 va c0 vb c1 h0 n0) own_R7.cells own_R7.slots (T2.setTop (mkF m 9 #[.val (.ref oo), .val (.ref p1), .val (.ref p2), .val (.int p3), .val (.int p4), .val (.int p5), .val (.int p6)] []))
  refine own_ldcs X2 hx hZ2 hown2 (hw _ (List.mem_of_getElem? (i := 43) rfl)) (fun d hd => hw d (own_sub d hd)) rfl hN2 12 (hb hby d7_9) (by decide) (by decide) (by decide) (by decide) rfl ?_
  intro sg6 T6 h6 s6 hN6 hV6 hZ6 hown6 X6 e6 E6
  have Zn7 := Nat.le_trans Zn3 E6.1
  have F0id_8 := F0id_5.ext E6
  have F0sid_8 := F0sid_5.ext E6
  have F0ref_8 := F0ref_5.ext E6
  have F0com_8 := F0com_5.ext E6
  have F0ini_8 := F0ini_5.ext E6
  have F0mou_8 := F0mou_5.ext E6
  have Et_8 := Et_5.ext E6
  have Ep_8 := Ep_5.ext E6
  have Fv_8 := Fv_5.ext E6
  have Av_8 := own_Al_ext E6 Av_5
  have Eq_8 := Eq_5.ext E6
  have Fw_8 := Fw_5.ext E6
  have Aw_8 := own_Al_ext E6 Aw_5
  have Kp9 := Kp4.ext E6
  show own_Ends p e below s (own_Q7 Z oo p1 p2 p3 p4 p5 p6 va c0 vb c1 h0 n0) own_R7.cells own_R7.slots (T6.setTop (mkF m 11 #[.val (.ref oo), .val (.ref p1), .val (.ref p2), .val (.int p3), .val (.int p4), .val (.int p5), .val (.int p6)] [(.ref sg6)]))
  refine own_up (S' := T6.setTop (mkF m 12 #[.val (.ref oo), .val (.ref p1), .val (.ref p2), .val (.int p3), .val (.int p4), .val (.int p5), .val (.int p6)] [(.int p3), (.ref sg6)])) (fun t stp => XS.iloadN X6.here hx rfl (hb hby d7_11) rfl stp) ?_
  refine own_up (S' := T6.setTop (mkF m 13 #[.val (.ref oo), .val (.ref p1), .val (.ref p2), .val (.int p3), .val (.int p4), .val (.int p5), .val (.int p6)] [(.int (0 : Int32)), (.int p3), (.ref sg6)])) (fun t stp => XT.iconstV X6.here hx rfl (0 : Int32) (hb hby d7_12) rfl stp) ?_
  refine own_up (S' := T6.setTop (mkF m 16 #[.val (.ref oo), .val (.ref p1), .val (.ref p2), .val (.int p3), .val (.int p4), .val (.int p5), .val (.int p6)] [(.int (1000 : Int32)), (.int (0 : Int32)), (.int p3), (.ref sg6)])) (fun t stp => XT.sipushV X6.here hx rfl (1000 : Int32) (hb hby d7_13) rfl stp) ?_
  refine own_callS X6 hx hZ6 hown6 (hw _ (List.mem_of_getElem? (i := 44) rfl)) (hw _ (List.mem_of_getElem? (i := 45) rfl)) (hw _ (List.mem_of_getElem? (i := 46) rfl)) (hw _ (List.mem_of_getElem? (i := 47) rfl)) (by decide) e6 hN6 (rm1 l Z a0 hw [] sg6 p3 (0 : Int32) (1000 : Int32) h6 n0 Zn7 (hyp3) (hzp3)) 0 [(.ref sg6), (.int p3), (.int (0 : Int32)), (.int (1000 : Int32))] [] (hb hby d7_16) (lenOf own_pd4 rfl) (by decide) (by decide) (by decide) (by decide) rfl (by rw [hml]; rfl) rfl (by show 2 * 0 + _ ≤ _; exact Nat.le_of_eq rfl) rfl ?_
  intro T10 L10 r10 s10 hN10 hV10 hZ10 hown10 X10 q10
  obtain ⟨rfl, M10, e10⟩ := q10
  rw [e10] at hN10
  have N10 := Fr.app N2 M10
  show own_Ends p e below s (own_Q7 Z oo p1 p2 p3 p4 p5 p6 va c0 vb c1 h0 n0) own_R7.cells own_R7.slots (T10.setTop (mkF m 19 #[.val (.ref oo), .val (.ref p1), .val (.ref p2), .val (.int p3), .val (.int p4), .val (.int p5), .val (.int p6)] []))
  refine own_ldcs X10 hx hZ10 hown10 (hw _ (List.mem_of_getElem? (i := 48) rfl)) (fun d hd => hw d (own_sub d hd)) e10 hN10 44 (hb hby d7_19) (by decide) (by decide) (by decide) (by decide) rfl ?_
  intro sg11 T11 h11 s11 hN11 hV11 hZ11 hown11 X11 e11 E11
  have Zn12 := Nat.le_trans Zn7 E11.1
  have F0id_13 := F0id_8.ext E11
  have F0sid_13 := F0sid_8.ext E11
  have F0ref_13 := F0ref_8.ext E11
  have F0com_13 := F0com_8.ext E11
  have F0ini_13 := F0ini_8.ext E11
  have F0mou_13 := F0mou_8.ext E11
  have Et_13 := Et_8.ext E11
  have Ep_13 := Ep_8.ext E11
  have Fv_13 := Fv_8.ext E11
  have Av_13 := own_Al_ext E11 Av_8
  have Eq_13 := Eq_8.ext E11
  have Fw_13 := Fw_8.ext E11
  have Aw_13 := own_Al_ext E11 Aw_8
  have Kp14 := Kp9.ext E11
  show own_Ends p e below s (own_Q7 Z oo p1 p2 p3 p4 p5 p6 va c0 vb c1 h0 n0) own_R7.cells own_R7.slots (T11.setTop (mkF m 21 #[.val (.ref oo), .val (.ref p1), .val (.ref p2), .val (.int p3), .val (.int p4), .val (.int p5), .val (.int p6)] [(.ref sg11)]))
  refine own_up (S' := T11.setTop (mkF m 23 #[.val (.ref oo), .val (.ref p1), .val (.ref p2), .val (.int p3), .val (.int p4), .val (.int p5), .val (.int p6)] [(.int p4), (.ref sg11)])) (fun t stp => XS.iload X11.here hx rfl (hb hby d7_21) rfl stp) ?_
  refine own_up (S' := T11.setTop (mkF m 24 #[.val (.ref oo), .val (.ref p1), .val (.ref p2), .val (.int p3), .val (.int p4), .val (.int p5), .val (.int p6)] [(.int (0 : Int32)), (.int p4), (.ref sg11)])) (fun t stp => XT.iconstV X11.here hx rfl (0 : Int32) (hb hby d7_23) rfl stp) ?_
  refine own_up (S' := T11.setTop (mkF m 27 #[.val (.ref oo), .val (.ref p1), .val (.ref p2), .val (.int p3), .val (.int p4), .val (.int p5), .val (.int p6)] [(.int (1000 : Int32)), (.int (0 : Int32)), (.int p4), (.ref sg11)])) (fun t stp => XT.sipushV X11.here hx rfl (1000 : Int32) (hb hby d7_24) rfl stp) ?_
  refine own_callS X11 hx hZ11 hown11 (hw _ (List.mem_of_getElem? (i := 44) rfl)) (hw _ (List.mem_of_getElem? (i := 45) rfl)) (hw _ (List.mem_of_getElem? (i := 46) rfl)) (hw _ (List.mem_of_getElem? (i := 47) rfl)) (by decide) e11 hN11 (rm1 l Z a0 hw [] sg11 p4 (0 : Int32) (1000 : Int32) h11 n0 Zn12 (hyp4) (hzp4)) 0 [(.ref sg11), (.int p4), (.int (0 : Int32)), (.int (1000 : Int32))] [] (hb hby d7_27) (lenOf own_pd4 rfl) (by decide) (by decide) (by decide) (by decide) rfl (by rw [hml]; rfl) rfl (by show 2 * 0 + _ ≤ _; exact Nat.le_of_eq rfl) rfl ?_
  intro T15 L15 r15 s15 hN15 hV15 hZ15 hown15 X15 q15
  obtain ⟨rfl, M15, e15⟩ := q15
  rw [e15] at hN15
  have N15 := Fr.app N10 M15
  show own_Ends p e below s (own_Q7 Z oo p1 p2 p3 p4 p5 p6 va c0 vb c1 h0 n0) own_R7.cells own_R7.slots (T15.setTop (mkF m 30 #[.val (.ref oo), .val (.ref p1), .val (.ref p2), .val (.int p3), .val (.int p4), .val (.int p5), .val (.int p6)] []))
  refine own_ldcs X15 hx hZ15 hown15 (hw _ (List.mem_of_getElem? (i := 49) rfl)) (fun d hd => hw d (own_sub d hd)) e15 hN15 60 (hb hby d7_30) (by decide) (by decide) (by decide) (by decide) rfl ?_
  intro sg16 T16 h16 s16 hN16 hV16 hZ16 hown16 X16 e16 E16
  have Zn17 := Nat.le_trans Zn12 E16.1
  have F0id_18 := F0id_13.ext E16
  have F0sid_18 := F0sid_13.ext E16
  have F0ref_18 := F0ref_13.ext E16
  have F0com_18 := F0com_13.ext E16
  have F0ini_18 := F0ini_13.ext E16
  have F0mou_18 := F0mou_13.ext E16
  have Et_18 := Et_13.ext E16
  have Ep_18 := Ep_13.ext E16
  have Fv_18 := Fv_13.ext E16
  have Av_18 := own_Al_ext E16 Av_13
  have Eq_18 := Eq_13.ext E16
  have Fw_18 := Fw_13.ext E16
  have Aw_18 := own_Al_ext E16 Aw_13
  have Kp19 := Kp14.ext E16
  show own_Ends p e below s (own_Q7 Z oo p1 p2 p3 p4 p5 p6 va c0 vb c1 h0 n0) own_R7.cells own_R7.slots (T16.setTop (mkF m 32 #[.val (.ref oo), .val (.ref p1), .val (.ref p2), .val (.int p3), .val (.int p4), .val (.int p5), .val (.int p6)] [(.ref sg16)]))
  refine own_up (S' := T16.setTop (mkF m 34 #[.val (.ref oo), .val (.ref p1), .val (.ref p2), .val (.int p3), .val (.int p4), .val (.int p5), .val (.int p6)] [(.int p5), (.ref sg16)])) (fun t stp => XS.iload X16.here hx rfl (hb hby d7_32) rfl stp) ?_
  refine own_up (S' := T16.setTop (mkF m 37 #[.val (.ref oo), .val (.ref p1), .val (.ref p2), .val (.int p3), .val (.int p4), .val (.int p5), .val (.int p6)] [(.int (-1000 : Int32)), (.int p5), (.ref sg16)])) (fun t stp => XT.sipushV X16.here hx rfl (-1000 : Int32) (hb hby d7_34) rfl stp) ?_
  refine own_up (S' := T16.setTop (mkF m 40 #[.val (.ref oo), .val (.ref p1), .val (.ref p2), .val (.int p3), .val (.int p4), .val (.int p5), .val (.int p6)] [(.int (1000 : Int32)), (.int (-1000 : Int32)), (.int p5), (.ref sg16)])) (fun t stp => XT.sipushV X16.here hx rfl (1000 : Int32) (hb hby d7_37) rfl stp) ?_
  refine own_callS X16 hx hZ16 hown16 (hw _ (List.mem_of_getElem? (i := 44) rfl)) (hw _ (List.mem_of_getElem? (i := 45) rfl)) (hw _ (List.mem_of_getElem? (i := 46) rfl)) (hw _ (List.mem_of_getElem? (i := 47) rfl)) (by decide) e16 hN16 (rm1 l Z a0 hw [] sg16 p5 (-1000 : Int32) (1000 : Int32) h16 n0 Zn17 (hyp5) (hzp5)) 0 [(.ref sg16), (.int p5), (.int (-1000 : Int32)), (.int (1000 : Int32))] [] (hb hby d7_40) (lenOf own_pd4 rfl) (by decide) (by decide) (by decide) (by decide) rfl (by rw [hml]; rfl) rfl (by show 2 * 0 + _ ≤ _; exact Nat.le_of_eq rfl) rfl ?_
  intro T20 L20 r20 s20 hN20 hV20 hZ20 hown20 X20 q20
  obtain ⟨rfl, M20, e20⟩ := q20
  rw [e20] at hN20
  have N20 := Fr.app N15 M20
  show own_Ends p e below s (own_Q7 Z oo p1 p2 p3 p4 p5 p6 va c0 vb c1 h0 n0) own_R7.cells own_R7.slots (T20.setTop (mkF m 43 #[.val (.ref oo), .val (.ref p1), .val (.ref p2), .val (.int p3), .val (.int p4), .val (.int p5), .val (.int p6)] []))
  refine own_ldcs X20 hx hZ20 hown20 (hw _ (List.mem_of_getElem? (i := 50) rfl)) (fun d hd => hw d (own_sub d hd)) e20 hN20 16 (hb hby d7_43) (by decide) (by decide) (by decide) (by decide) rfl ?_
  intro sg21 T21 h21 s21 hN21 hV21 hZ21 hown21 X21 e21 E21
  have Zn22 := Nat.le_trans Zn17 E21.1
  have F0id_23 := F0id_18.ext E21
  have F0sid_23 := F0sid_18.ext E21
  have F0ref_23 := F0ref_18.ext E21
  have F0com_23 := F0com_18.ext E21
  have F0ini_23 := F0ini_18.ext E21
  have F0mou_23 := F0mou_18.ext E21
  have Et_23 := Et_18.ext E21
  have Ep_23 := Ep_18.ext E21
  have Fv_23 := Fv_18.ext E21
  have Av_23 := own_Al_ext E21 Av_18
  have Eq_23 := Eq_18.ext E21
  have Fw_23 := Fw_18.ext E21
  have Aw_23 := own_Al_ext E21 Aw_18
  have Kp24 := Kp19.ext E21
  show own_Ends p e below s (own_Q7 Z oo p1 p2 p3 p4 p5 p6 va c0 vb c1 h0 n0) own_R7.cells own_R7.slots (T21.setTop (mkF m 45 #[.val (.ref oo), .val (.ref p1), .val (.ref p2), .val (.int p3), .val (.int p4), .val (.int p5), .val (.int p6)] [(.ref sg21)]))
  refine own_up (S' := T21.setTop (mkF m 47 #[.val (.ref oo), .val (.ref p1), .val (.ref p2), .val (.int p3), .val (.int p4), .val (.int p5), .val (.int p6)] [(.int p6), (.ref sg21)])) (fun t stp => XS.iload X21.here hx rfl (hb hby d7_45) rfl stp) ?_
  refine own_up (S' := T21.setTop (mkF m 48 #[.val (.ref oo), .val (.ref p1), .val (.ref p2), .val (.int p3), .val (.int p4), .val (.int p5), .val (.int p6)] [(.int (0 : Int32)), (.int p6), (.ref sg21)])) (fun t stp => XT.iconstV X21.here hx rfl (0 : Int32) (hb hby d7_47) rfl stp) ?_
  refine own_up (S' := T21.setTop (mkF m 51 #[.val (.ref oo), .val (.ref p1), .val (.ref p2), .val (.int p3), .val (.int p4), .val (.int p5), .val (.int p6)] [(.int (1000 : Int32)), (.int (0 : Int32)), (.int p6), (.ref sg21)])) (fun t stp => XT.sipushV X21.here hx rfl (1000 : Int32) (hb hby d7_48) rfl stp) ?_
  refine own_callS X21 hx hZ21 hown21 (hw _ (List.mem_of_getElem? (i := 44) rfl)) (hw _ (List.mem_of_getElem? (i := 45) rfl)) (hw _ (List.mem_of_getElem? (i := 46) rfl)) (hw _ (List.mem_of_getElem? (i := 47) rfl)) (by decide) e21 hN21 (rm1 l Z a0 hw [] sg21 p6 (0 : Int32) (1000 : Int32) h21 n0 Zn22 (hyp6) (hzp6)) 0 [(.ref sg21), (.int p6), (.int (0 : Int32)), (.int (1000 : Int32))] [] (hb hby d7_51) (lenOf own_pd4 rfl) (by decide) (by decide) (by decide) (by decide) rfl (by rw [hml]; rfl) rfl (by show 2 * 0 + _ ≤ _; exact Nat.le_of_eq rfl) rfl ?_
  intro T25 L25 r25 s25 hN25 hV25 hZ25 hown25 X25 q25
  obtain ⟨rfl, M25, e25⟩ := q25
  rw [e25] at hN25
  have N25 := Fr.app N20 M25
  show own_Ends p e below s (own_Q7 Z oo p1 p2 p3 p4 p5 p6 va c0 vb c1 h0 n0) own_R7.cells own_R7.slots (T25.setTop (mkF m 54 #[.val (.ref oo), .val (.ref p1), .val (.ref p2), .val (.int p3), .val (.int p4), .val (.int p5), .val (.int p6)] []))
  refine own_up (S' := T25.setTop (mkF m 55 #[.val (.ref oo), .val (.ref p1), .val (.ref p2), .val (.int p3), .val (.int p4), .val (.int p5), .val (.int p6)] [(.ref oo)])) (fun t stp => XS.aloadN X25.here hx rfl (hb hby d7_54) rfl rfl stp) ?_
  refine own_up (S' := T25.setTop (mkF m 56 #[.val (.ref oo), .val (.ref p1), .val (.ref p2), .val (.int p3), .val (.int p4), .val (.int p5), .val (.int p6)] [(.ref p1), (.ref oo)])) (fun t stp => XS.aloadN X25.here hx rfl (hb hby d7_55) rfl rfl stp) ?_
  refine own_put X25 hx hZ25 (.object "java/lang/String") hown25 (hw _ (List.mem_of_getElem? (i := 51) rfl)) Via.refl e25 F0id_23 Et_23 (Or.inr ⟨(hw _ (List.mem_of_getElem? (i := 52) rfl)), rfl, hnm⟩) (hw _ (List.mem_of_getElem? (i := 2) rfl)) (by decide) (v' := (.ref p1)) (rfl) (rfl) (g' := (mkF m 59 #[.val (.ref oo), .val (.ref p1), .val (.ref p2), .val (.int p3), .val (.int p4), .val (.int p5), .val (.int p6)] [])) (hb hby d7_56) rfl rfl rfl ?_
  intro T26 h26 X26 e26 W26
  have Zn27 := Nat.le_trans Zn22 (Nat.le_of_eq W26.size.symm)
  have hNz27 := own_Sn_le hN25 (Nat.le_of_eq W26.size.symm)
  have F0sid_28 := F0sid_23.other W26 (Or.inr (slot_ne (Or.inr (hw _ (List.mem_of_getElem? (i := 54) rfl))) (Or.inr (hw _ (List.mem_of_getElem? (i := 52) rfl))) (by decide) (t := (.object "java/lang/String")) (t' := (.object "java/lang/String")) (by decide) (by decide)))
  have F0ref_28 := F0ref_23.other W26 (Or.inr (slot_ne (Or.inr (hw _ (List.mem_of_getElem? (i := 56) rfl))) (Or.inr (hw _ (List.mem_of_getElem? (i := 52) rfl))) (by decide) (t := .int) (t' := (.object "java/lang/String")) (by decide) (by decide)))
  have F0com_28 := F0com_23.other W26 (Or.inr (slot_ne (Or.inr (hw _ (List.mem_of_getElem? (i := 58) rfl))) (Or.inr (hw _ (List.mem_of_getElem? (i := 52) rfl))) (by decide) (t := .int) (t' := (.object "java/lang/String")) (by decide) (by decide)))
  have F0ini_28 := F0ini_23.other W26 (Or.inr (slot_ne (Or.inr (hw _ (List.mem_of_getElem? (i := 60) rfl))) (Or.inr (hw _ (List.mem_of_getElem? (i := 52) rfl))) (by decide) (t := .int) (t' := (.object "java/lang/String")) (by decide) (by decide)))
  have F0mou_28 := F0mou_23.other W26 (Or.inr (slot_ne (Or.inr (hw _ (List.mem_of_getElem? (i := 62) rfl))) (Or.inr (hw _ (List.mem_of_getElem? (i := 52) rfl))) (by decide) (t := .int) (t' := (.object "java/lang/String")) (by decide) (by decide)))
  have Et_28 := Et_23.wr W26
  have Kp29 := Kp24.wr W26 (Or.inl (List.mem_of_getElem? (i := 0) rfl))
  have N26 := Fr.snoc X26 N25 gt
  have Fid_26 := F0id_23.same W26
  refine own_up (S' := T26.setTop (mkF m 60 #[.val (.ref oo), .val (.ref p1), .val (.ref p2), .val (.int p3), .val (.int p4), .val (.int p5), .val (.int p6)] [(.ref oo)])) (fun t stp => XS.aloadN X26.here hx rfl (hb hby d7_59) rfl rfl stp) ?_
  refine own_up (S' := T26.setTop (mkF m 61 #[.val (.ref oo), .val (.ref p1), .val (.ref p2), .val (.int p3), .val (.int p4), .val (.int p5), .val (.int p6)] [(.ref p2), (.ref oo)])) (fun t stp => XS.aloadN X26.here hx rfl (hb hby d7_60) rfl rfl stp) ?_
  refine own_put X26 hx hZ25 (.object "java/lang/String") hown25 (hw _ (List.mem_of_getElem? (i := 53) rfl)) Via.refl e26 F0sid_28 Et_28 (Or.inr ⟨(hw _ (List.mem_of_getElem? (i := 54) rfl)), rfl, hnm⟩) (hw _ (List.mem_of_getElem? (i := 2) rfl)) (by decide) (v' := (.ref p2)) (rfl) (rfl) (g' := (mkF m 64 #[.val (.ref oo), .val (.ref p1), .val (.ref p2), .val (.int p3), .val (.int p4), .val (.int p5), .val (.int p6)] [])) (hb hby d7_61) rfl rfl rfl ?_
  intro T30 h30 X30 e30 W30
  have Zn31 := Nat.le_trans Zn27 (Nat.le_of_eq W30.size.symm)
  have hNz31 := own_Sn_le hNz27 (Nat.le_of_eq W30.size.symm)
  have Fid_32 := Fid_26.other W30 (Or.inr (slot_ne (Or.inr (hw _ (List.mem_of_getElem? (i := 52) rfl))) (Or.inr (hw _ (List.mem_of_getElem? (i := 54) rfl))) (by decide) (t := (.object "java/lang/String")) (t' := (.object "java/lang/String")) (by decide) (by decide)))
  have F0ref_32 := F0ref_28.other W30 (Or.inr (slot_ne (Or.inr (hw _ (List.mem_of_getElem? (i := 56) rfl))) (Or.inr (hw _ (List.mem_of_getElem? (i := 54) rfl))) (by decide) (t := .int) (t' := (.object "java/lang/String")) (by decide) (by decide)))
  have F0com_32 := F0com_28.other W30 (Or.inr (slot_ne (Or.inr (hw _ (List.mem_of_getElem? (i := 58) rfl))) (Or.inr (hw _ (List.mem_of_getElem? (i := 54) rfl))) (by decide) (t := .int) (t' := (.object "java/lang/String")) (by decide) (by decide)))
  have F0ini_32 := F0ini_28.other W30 (Or.inr (slot_ne (Or.inr (hw _ (List.mem_of_getElem? (i := 60) rfl))) (Or.inr (hw _ (List.mem_of_getElem? (i := 54) rfl))) (by decide) (t := .int) (t' := (.object "java/lang/String")) (by decide) (by decide)))
  have F0mou_32 := F0mou_28.other W30 (Or.inr (slot_ne (Or.inr (hw _ (List.mem_of_getElem? (i := 62) rfl))) (Or.inr (hw _ (List.mem_of_getElem? (i := 54) rfl))) (by decide) (t := .int) (t' := (.object "java/lang/String")) (by decide) (by decide)))
  have Et_32 := Et_28.wr W30
  have Kp33 := Kp29.wr W30 (Or.inl (List.mem_of_getElem? (i := 0) rfl))
  have N30 := Fr.snoc X30 N26 gt
  have Fside_30 := F0sid_28.same W30
  refine own_up (S' := T30.setTop (mkF m 65 #[.val (.ref oo), .val (.ref p1), .val (.ref p2), .val (.int p3), .val (.int p4), .val (.int p5), .val (.int p6)] [(.ref oo)])) (fun t stp => XS.aloadN X30.here hx rfl (hb hby d7_64) rfl rfl stp) ?_
  refine own_up (S' := T30.setTop (mkF m 66 #[.val (.ref oo), .val (.ref p1), .val (.ref p2), .val (.int p3), .val (.int p4), .val (.int p5), .val (.int p6)] [(.int p3), (.ref oo)])) (fun t stp => XS.iloadN X30.here hx rfl (hb hby d7_65) rfl stp) ?_
  refine own_put X30 hx hZ25 .int hown25 (hw _ (List.mem_of_getElem? (i := 55) rfl)) Via.refl e30 F0ref_32 Et_32 (Or.inr ⟨(hw _ (List.mem_of_getElem? (i := 56) rfl)), rfl, hnm⟩) (hw _ (List.mem_of_getElem? (i := 2) rfl)) (by decide) (v' := (.int p3)) (rfl) (rfl) (g' := (mkF m 69 #[.val (.ref oo), .val (.ref p1), .val (.ref p2), .val (.int p3), .val (.int p4), .val (.int p5), .val (.int p6)] [])) (hb hby d7_66) rfl rfl rfl ?_
  intro T34 h34 X34 e34 W34
  have Zn35 := Nat.le_trans Zn31 (Nat.le_of_eq W34.size.symm)
  have hNz35 := own_Sn_le hNz31 (Nat.le_of_eq W34.size.symm)
  have Fid_36 := Fid_32.other W34 (Or.inr (slot_ne (Or.inr (hw _ (List.mem_of_getElem? (i := 52) rfl))) (Or.inr (hw _ (List.mem_of_getElem? (i := 56) rfl))) (by decide) (t := (.object "java/lang/String")) (t' := .int) (by decide) (by decide)))
  have Fside_36 := Fside_30.other W34 (Or.inr (slot_ne (Or.inr (hw _ (List.mem_of_getElem? (i := 54) rfl))) (Or.inr (hw _ (List.mem_of_getElem? (i := 56) rfl))) (by decide) (t := (.object "java/lang/String")) (t' := .int) (by decide) (by decide)))
  have F0com_36 := F0com_32.other W34 (Or.inr (slot_ne (Or.inr (hw _ (List.mem_of_getElem? (i := 58) rfl))) (Or.inr (hw _ (List.mem_of_getElem? (i := 56) rfl))) (by decide) (t := .int) (t' := .int) (by decide) (by decide)))
  have F0ini_36 := F0ini_32.other W34 (Or.inr (slot_ne (Or.inr (hw _ (List.mem_of_getElem? (i := 60) rfl))) (Or.inr (hw _ (List.mem_of_getElem? (i := 56) rfl))) (by decide) (t := .int) (t' := .int) (by decide) (by decide)))
  have F0mou_36 := F0mou_32.other W34 (Or.inr (slot_ne (Or.inr (hw _ (List.mem_of_getElem? (i := 62) rfl))) (Or.inr (hw _ (List.mem_of_getElem? (i := 56) rfl))) (by decide) (t := .int) (t' := .int) (by decide) (by decide)))
  have Et_36 := Et_32.wr W34
  have Kp37 := Kp33.wr W34 (Or.inl (List.mem_of_getElem? (i := 0) rfl))
  have N34 := Fr.snoc X34 N30 gt
  have Fref_34 := F0ref_32.same W34
  refine own_up (S' := T34.setTop (mkF m 70 #[.val (.ref oo), .val (.ref p1), .val (.ref p2), .val (.int p3), .val (.int p4), .val (.int p5), .val (.int p6)] [(.ref oo)])) (fun t stp => XS.aloadN X34.here hx rfl (hb hby d7_69) rfl rfl stp) ?_
  refine own_up (S' := T34.setTop (mkF m 72 #[.val (.ref oo), .val (.ref p1), .val (.ref p2), .val (.int p3), .val (.int p4), .val (.int p5), .val (.int p6)] [(.int p4), (.ref oo)])) (fun t stp => XS.iload X34.here hx rfl (hb hby d7_70) rfl stp) ?_
  refine own_put X34 hx hZ25 .int hown25 (hw _ (List.mem_of_getElem? (i := 57) rfl)) Via.refl e34 F0com_36 Et_36 (Or.inr ⟨(hw _ (List.mem_of_getElem? (i := 58) rfl)), rfl, hnm⟩) (hw _ (List.mem_of_getElem? (i := 2) rfl)) (by decide) (v' := (.int p4)) (rfl) (rfl) (g' := (mkF m 75 #[.val (.ref oo), .val (.ref p1), .val (.ref p2), .val (.int p3), .val (.int p4), .val (.int p5), .val (.int p6)] [])) (hb hby d7_72) rfl rfl rfl ?_
  intro T38 h38 X38 e38 W38
  have Zn39 := Nat.le_trans Zn35 (Nat.le_of_eq W38.size.symm)
  have hNz39 := own_Sn_le hNz35 (Nat.le_of_eq W38.size.symm)
  have Fid_40 := Fid_36.other W38 (Or.inr (slot_ne (Or.inr (hw _ (List.mem_of_getElem? (i := 52) rfl))) (Or.inr (hw _ (List.mem_of_getElem? (i := 58) rfl))) (by decide) (t := (.object "java/lang/String")) (t' := .int) (by decide) (by decide)))
  have Fside_40 := Fside_36.other W38 (Or.inr (slot_ne (Or.inr (hw _ (List.mem_of_getElem? (i := 54) rfl))) (Or.inr (hw _ (List.mem_of_getElem? (i := 58) rfl))) (by decide) (t := (.object "java/lang/String")) (t' := .int) (by decide) (by decide)))
  have Fref_40 := Fref_34.other W38 (Or.inr (slot_ne (Or.inr (hw _ (List.mem_of_getElem? (i := 56) rfl))) (Or.inr (hw _ (List.mem_of_getElem? (i := 58) rfl))) (by decide) (t := .int) (t' := .int) (by decide) (by decide)))
  have F0ini_40 := F0ini_36.other W38 (Or.inr (slot_ne (Or.inr (hw _ (List.mem_of_getElem? (i := 60) rfl))) (Or.inr (hw _ (List.mem_of_getElem? (i := 58) rfl))) (by decide) (t := .int) (t' := .int) (by decide) (by decide)))
  have F0mou_40 := F0mou_36.other W38 (Or.inr (slot_ne (Or.inr (hw _ (List.mem_of_getElem? (i := 62) rfl))) (Or.inr (hw _ (List.mem_of_getElem? (i := 58) rfl))) (by decide) (t := .int) (t' := .int) (by decide) (by decide)))
  have Et_40 := Et_36.wr W38
  have Kp41 := Kp37.wr W38 (Or.inl (List.mem_of_getElem? (i := 0) rfl))
  have N38 := Fr.snoc X38 N34 gt
  have FcombatSense_38 := F0com_36.same W38
  refine own_up (S' := T38.setTop (mkF m 76 #[.val (.ref oo), .val (.ref p1), .val (.ref p2), .val (.int p3), .val (.int p4), .val (.int p5), .val (.int p6)] [(.ref oo)])) (fun t stp => XS.aloadN X38.here hx rfl (hb hby d7_75) rfl rfl stp) ?_
  refine own_up (S' := T38.setTop (mkF m 78 #[.val (.ref oo), .val (.ref p1), .val (.ref p2), .val (.int p3), .val (.int p4), .val (.int p5), .val (.int p6)] [(.int p5), (.ref oo)])) (fun t stp => XS.iload X38.here hx rfl (hb hby d7_76) rfl stp) ?_
  refine own_put X38 hx hZ25 .int hown25 (hw _ (List.mem_of_getElem? (i := 59) rfl)) Via.refl e38 F0ini_40 Et_40 (Or.inr ⟨(hw _ (List.mem_of_getElem? (i := 60) rfl)), rfl, hnm⟩) (hw _ (List.mem_of_getElem? (i := 2) rfl)) (by decide) (v' := (.int p5)) (rfl) (rfl) (g' := (mkF m 81 #[.val (.ref oo), .val (.ref p1), .val (.ref p2), .val (.int p3), .val (.int p4), .val (.int p5), .val (.int p6)] [])) (hb hby d7_78) rfl rfl rfl ?_
  intro T42 h42 X42 e42 W42
  have Zn43 := Nat.le_trans Zn39 (Nat.le_of_eq W42.size.symm)
  have hNz43 := own_Sn_le hNz39 (Nat.le_of_eq W42.size.symm)
  have Fid_44 := Fid_40.other W42 (Or.inr (slot_ne (Or.inr (hw _ (List.mem_of_getElem? (i := 52) rfl))) (Or.inr (hw _ (List.mem_of_getElem? (i := 60) rfl))) (by decide) (t := (.object "java/lang/String")) (t' := .int) (by decide) (by decide)))
  have Fside_44 := Fside_40.other W42 (Or.inr (slot_ne (Or.inr (hw _ (List.mem_of_getElem? (i := 54) rfl))) (Or.inr (hw _ (List.mem_of_getElem? (i := 60) rfl))) (by decide) (t := (.object "java/lang/String")) (t' := .int) (by decide) (by decide)))
  have Fref_44 := Fref_40.other W42 (Or.inr (slot_ne (Or.inr (hw _ (List.mem_of_getElem? (i := 56) rfl))) (Or.inr (hw _ (List.mem_of_getElem? (i := 60) rfl))) (by decide) (t := .int) (t' := .int) (by decide) (by decide)))
  have FcombatSense_44 := FcombatSense_38.other W42 (Or.inr (slot_ne (Or.inr (hw _ (List.mem_of_getElem? (i := 58) rfl))) (Or.inr (hw _ (List.mem_of_getElem? (i := 60) rfl))) (by decide) (t := .int) (t' := .int) (by decide) (by decide)))
  have F0mou_44 := F0mou_40.other W42 (Or.inr (slot_ne (Or.inr (hw _ (List.mem_of_getElem? (i := 62) rfl))) (Or.inr (hw _ (List.mem_of_getElem? (i := 60) rfl))) (by decide) (t := .int) (t' := .int) (by decide) (by decide)))
  have Et_44 := Et_40.wr W42
  have Kp45 := Kp41.wr W42 (Or.inl (List.mem_of_getElem? (i := 0) rfl))
  have N42 := Fr.snoc X42 N38 gt
  have FinitiativeBonus_42 := F0ini_40.same W42
  refine own_up (S' := T42.setTop (mkF m 82 #[.val (.ref oo), .val (.ref p1), .val (.ref p2), .val (.int p3), .val (.int p4), .val (.int p5), .val (.int p6)] [(.ref oo)])) (fun t stp => XS.aloadN X42.here hx rfl (hb hby d7_81) rfl rfl stp) ?_
  refine own_up (S' := T42.setTop (mkF m 84 #[.val (.ref oo), .val (.ref p1), .val (.ref p2), .val (.int p3), .val (.int p4), .val (.int p5), .val (.int p6)] [(.int p6), (.ref oo)])) (fun t stp => XS.iload X42.here hx rfl (hb hby d7_82) rfl stp) ?_
  refine own_put X42 hx hZ25 .int hown25 (hw _ (List.mem_of_getElem? (i := 61) rfl)) Via.refl e42 F0mou_44 Et_44 (Or.inr ⟨(hw _ (List.mem_of_getElem? (i := 62) rfl)), rfl, hnm⟩) (hw _ (List.mem_of_getElem? (i := 2) rfl)) (by decide) (v' := (.int p6)) (rfl) (rfl) (g' := (mkF m 87 #[.val (.ref oo), .val (.ref p1), .val (.ref p2), .val (.int p3), .val (.int p4), .val (.int p5), .val (.int p6)] [])) (hb hby d7_84) rfl rfl rfl ?_
  intro T46 h46 X46 e46 W46
  have Zn47 := Nat.le_trans Zn43 (Nat.le_of_eq W46.size.symm)
  have hNz47 := own_Sn_le hNz43 (Nat.le_of_eq W46.size.symm)
  have Fid_48 := Fid_44.other W46 (Or.inr (slot_ne (Or.inr (hw _ (List.mem_of_getElem? (i := 52) rfl))) (Or.inr (hw _ (List.mem_of_getElem? (i := 62) rfl))) (by decide) (t := (.object "java/lang/String")) (t' := .int) (by decide) (by decide)))
  have Fside_48 := Fside_44.other W46 (Or.inr (slot_ne (Or.inr (hw _ (List.mem_of_getElem? (i := 54) rfl))) (Or.inr (hw _ (List.mem_of_getElem? (i := 62) rfl))) (by decide) (t := (.object "java/lang/String")) (t' := .int) (by decide) (by decide)))
  have Fref_48 := Fref_44.other W46 (Or.inr (slot_ne (Or.inr (hw _ (List.mem_of_getElem? (i := 56) rfl))) (Or.inr (hw _ (List.mem_of_getElem? (i := 62) rfl))) (by decide) (t := .int) (t' := .int) (by decide) (by decide)))
  have FcombatSense_48 := FcombatSense_44.other W46 (Or.inr (slot_ne (Or.inr (hw _ (List.mem_of_getElem? (i := 58) rfl))) (Or.inr (hw _ (List.mem_of_getElem? (i := 62) rfl))) (by decide) (t := .int) (t' := .int) (by decide) (by decide)))
  have FinitiativeBonus_48 := FinitiativeBonus_42.other W46 (Or.inr (slot_ne (Or.inr (hw _ (List.mem_of_getElem? (i := 60) rfl))) (Or.inr (hw _ (List.mem_of_getElem? (i := 62) rfl))) (by decide) (t := .int) (t' := .int) (by decide) (by decide)))
  have Et_48 := Et_44.wr W46
  have Kp49 := Kp45.wr W46 (Or.inl (List.mem_of_getElem? (i := 0) rfl))
  have N46 := Fr.snoc X46 N42 gt
  have Fmouv_46 := F0mou_44.same W46
  refine own_retV X46 hx hlk hret (hb hby d7_87) hNz47 e46 (by decide) (by decide) ?_
  show own_Q7 Z oo p1 p2 p3 p4 p5 p6 va c0 vb c1 h0 n0 _ T46.heap _
  rw [e46]
  exact ⟨rfl, N46, Kp49, Fref_48, FcombatSense_48, FinitiativeBonus_48⟩
theorem d8_0 : decode prog_44_method_2_code 0 = .ok (.iload_n 1, 1) := by decide +kernel
theorem d8_1 : decode prog_44_method_2_code 1 = .ok (.aload_n 0, 1) := by decide +kernel
theorem d8_2 : decode prog_44_method_2_code 2 = .ok (.getfield 36, 3) := by decide +kernel
theorem d8_5 : decode prog_44_method_2_code 5 = .ok (.iadd, 1) := by decide +kernel
theorem d8_6 : decode prog_44_method_2_code 6 = .ok (.aload_n 0, 1) := by decide +kernel
theorem d8_7 : decode prog_44_method_2_code 7 = .ok (.getfield 39, 3) := by decide +kernel
theorem d8_10 : decode prog_44_method_2_code 10 = .ok (.iadd, 1) := by decide +kernel
theorem d8_11 : decode prog_44_method_2_code 11 = .ok (.aload_n 0, 1) := by decide +kernel
theorem d8_12 : decode prog_44_method_2_code 12 = .ok (.getfield 41, 3) := by decide +kernel
theorem d8_15 : decode prog_44_method_2_code 15 = .ok (.iadd, 1) := by decide +kernel
theorem d8_16 : decode prog_44_method_2_code 16 = .ok (.ireturn, 1) := by decide +kernel
def own_R8 : Room := { frames := 0, cells := 0, slots := 0, locals := 0 }
theorem own_ef8 (oo : Addr) (p1 : Int32) (m : MethodId) : entryFrame m #[(.ref oo), (.int p1)] 2 = mkF m 0 #[.val (.ref oo), .val (.int p1)] [] := by first | (simp [entryFrame, mkF, argsToLocals, Value.category]; done) | rfl
def own_Q8 (Z : State) (oo : Addr) (p1 : Int32) (w0 : Int32) (w1 : Int32) (w2 : Int32) (h0 : Heap) (n0 : Nat) (v : Option Value) (h : Heap) (L : List Loc) : Prop := v = some (.int (((p1 + w0) + w1) + w2)) ∧ Fr n0 L ∧ h = h0
set_option maxRecDepth 65536 in
set_option maxHeartbeats 40000000 in
theorem rm8 (l : Launch) (Z : State) (a0 : Array Value) (hw : ∀ d ∈ tables_1, d.before a0 Z = true) (ws : List Jvm.Cond) (oo : Addr) (p1 : Int32) (w0 : Int32) (w1 : Int32) (w2 : Int32) (h0 : Heap) (n0 : Nat) (Z0 : n0 ≤ h0.size) (Fa : Fld Z h0 oo "com/example/escarmouche/escarmouche/rulesets/cyberpunk2020/Combatant" "ref" "I" (.int w0)) (Fb : Fld Z h0 oo "com/example/escarmouche/escarmouche/rulesets/cyberpunk2020/Combatant" "combatSense" "I" (.int w1)) (Fc : Fld Z h0 oo "com/example/escarmouche/escarmouche/rulesets/cyberpunk2020/Combatant" "initiativeBonus" "I" (.int w2)) :
    MetFree l (⟨"com/example/escarmouche/escarmouche/rulesets/cyberpunk2020/Combatant", "initiative", "(I)I"⟩ : MethodName) (head1 (Jvm.Cond.code (⟨"com/example/escarmouche/escarmouche/rulesets/cyberpunk2020/Combatant", "initiative", "(I)I"⟩ : MethodName) prog_44_method_2_code 2 (some .int) :: ws) own_R8) (fun a U => a = #[(.ref oo), (.int p1)] ∧ Z.Warmed39 U.vm ∧ U.heap = h0) (fun _ _ _ _ _ => True) (fun _ U o U' => ∃ v L, o = .returned v ∧ own_Q8 Z oo p1 w0 w1 w2 h0 n0 v U'.heap L ∧ ReturnedEndW U o U' L own_R8.cells own_R8.slots) := by
  refine own_met (Q := own_Q8 Z oo p1 w0 w1 w2 h0 n0) (plainFor_of_name (by first | (simp [plainName, overriddenIn]; done) | decide +kernel)) (own_ef8 oo p1) ?_
  intro p e s m below meth c T0 hx hby hml hown hnm hret hlk hZ e0 hN0 X0
  have N0 := Fr.nil n0
  refine own_up (S' := T0.setTop (mkF m 1 #[.val (.ref oo), .val (.int p1)] [(.int p1)])) (fun t stp => XS.iloadN X0.here hx rfl (hb hby d8_0) rfl stp) ?_
  refine own_up (S' := T0.setTop (mkF m 2 #[.val (.ref oo), .val (.int p1)] [(.ref oo), (.int p1)])) (fun t stp => XS.aloadN X0.here hx rfl (hb hby d8_1) rfl rfl stp) ?_
  refine own_get X0 hx hZ hown (hw _ (List.mem_of_getElem? (i := 55) rfl)) Via.refl e0 Fa (g' := (mkF m 5 #[.val (.ref oo), .val (.int p1)] [(.int w0), (.int p1)])) (hb hby d8_2) rfl rfl rfl ?_
  intro T1 X1 e1
  refine own_up (S' := T1.setTop (mkF m 6 #[.val (.ref oo), .val (.int p1)] [(.int (p1 + w0))])) (fun t stp => XS.iadd X1.here hx rfl (hb hby d8_5) rfl stp) ?_
  refine own_up (S' := T1.setTop (mkF m 7 #[.val (.ref oo), .val (.int p1)] [(.ref oo), (.int (p1 + w0))])) (fun t stp => XS.aloadN X1.here hx rfl (hb hby d8_6) rfl rfl stp) ?_
  refine own_get X1 hx hZ hown (hw _ (List.mem_of_getElem? (i := 57) rfl)) Via.refl e1 Fb (g' := (mkF m 10 #[.val (.ref oo), .val (.int p1)] [(.int w1), (.int (p1 + w0))])) (hb hby d8_7) rfl rfl rfl ?_
  intro T2 X2 e2
  refine own_up (S' := T2.setTop (mkF m 11 #[.val (.ref oo), .val (.int p1)] [(.int ((p1 + w0) + w1))])) (fun t stp => XS.iadd X2.here hx rfl (hb hby d8_10) rfl stp) ?_
  refine own_up (S' := T2.setTop (mkF m 12 #[.val (.ref oo), .val (.int p1)] [(.ref oo), (.int ((p1 + w0) + w1))])) (fun t stp => XS.aloadN X2.here hx rfl (hb hby d8_11) rfl rfl stp) ?_
  refine own_get X2 hx hZ hown (hw _ (List.mem_of_getElem? (i := 59) rfl)) Via.refl e2 Fc (g' := (mkF m 15 #[.val (.ref oo), .val (.int p1)] [(.int w2), (.int ((p1 + w0) + w1))])) (hb hby d8_12) rfl rfl rfl ?_
  intro T3 X3 e3
  refine own_up (S' := T3.setTop (mkF m 16 #[.val (.ref oo), .val (.int p1)] [(.int (((p1 + w0) + w1) + w2))])) (fun t stp => XS.iadd X3.here hx rfl (hb hby d8_15) rfl stp) ?_
  refine own_retI X3 hx hlk hret (hb hby d8_16) hN0 e3 (by decide) (by decide) ?_
  show own_Q8 Z oo p1 w0 w1 w2 h0 n0 _ T3.heap _
  rw [e3]
  exact ⟨rfl, N0, rfl⟩
theorem own_ef0 (die : Int32) (ra : Int32) (sa : Int32) (ba : Int32) (m : MethodId) : entryFrame m #[(.int die), (.int ra), (.int sa), (.int ba)] maxLocals = mkF m 0 #[.val (.int die), .val (.int ra), .val (.int sa), .val (.int ba), .unset, .unset, .unset, .unset, .unset, .unset, .unset] [] := by first | (simp [entryFrame, mkF, argsToLocals, Value.category, maxLocals]; done) | rfl
def own_Q0 (Z : State) (die : Int32) (ra : Int32) (sa : Int32) (ba : Int32)  (h0 : Heap) (n0 : Nat) (v : Option Value) (h : Heap) (L : List Loc) : Prop := v = some (.int 1) ∧ Fr n0 L
set_option maxRecDepth 65536 in
set_option maxHeartbeats 40000000 in
theorem rm0 (l : Launch) (Z : State) (a0 : Array Value) (hw : ∀ d ∈ tables_1, d.before a0 Z = true) (ws : List Jvm.Cond) (die : Int32) (ra : Int32) (sa : Int32) (ba : Int32)  (h0 : Heap) (n0 : Nat) (Z0 : n0 ≤ h0.size) (hkp0 : ∀ (b : Addr) (cl : Cell), Z.heap[b]? = some cl → h0[b]? = some cl) (hn0 : n0 = h0.size) (hch1 : Jvm.Lit.constHeld Z "com/example/escarmouche/escarmouche/rulesets/cyberpunk2020/CombatantInitiativePinLaw" 10) (hch2 : Jvm.Lit.constHeld Z "com/example/escarmouche/escarmouche/rulesets/cyberpunk2020/CombatantInitiativePinLaw" 12) (hcw : Jvm.Lit.compactW.before a0 Z = true) :
    MetFree l x (head1 (Jvm.Cond.code x code maxLocals ret :: ws) room_1) (fun a U => a = #[(.int die), (.int ra), (.int sa), (.int ba)] ∧ Z.Warmed39 U.vm ∧ U.heap = h0 ∧ IB Z U.vm []) (fun _ _ _ _ _ => True) (fun _ U o U' => ∃ v L, o = .returned v ∧ own_Q0 Z die ra sa ba h0 n0 v U'.heap L ∧ ReturnedEndW U o U' L room_1.cells room_1.slots) := by
  refine own_metI (Q := own_Q0 Z die ra sa ba h0 n0) (plainFor_of_name (by first | (simp [plainName, overriddenIn, x]; done) | decide +kernel)) (own_ef0 die ra sa ba) ?_
  intro p e s m below meth c T0 hx hby hml hown hnm hret hlk hZ e0 hh0 own_ib hN0 X0
  have hown : s.vm.findClass "com/example/escarmouche/escarmouche/rulesets/cyberpunk2020/CombatantInitiativePinLaw" = some m.cls := hown
  have N0 := Fr.nil n0
  have hkp : ∀ (b : Addr) (cl : Cell), Z.heap[b]? = some cl → s.heap[b]? = some cl := by rw [hh0]; exact hkp0
  have hn1 : n0 = s.heap.size := by rw [hh0]; exact hn0
  refine own_up (S' := T0.setTop (mkF m 1 #[.val (.int die), .val (.int ra), .val (.int sa), .val (.int ba), .unset, .unset, .unset, .unset, .unset, .unset, .unset] [(.int ra)])) (fun t stp => XS.iloadN X0.here hx rfl (hb hby at_0) rfl stp) ?_
  refine own_up (S' := T0.setTop (mkF m 3 #[.val (.int die), .val (.int ra), .val (.int sa), .val (.int ba), .unset, .unset, .unset, .unset, .unset, .unset, .unset] [(.int (2147483647 : Int32)), (.int ra)])) (fun t stp => X0.ldcI hx hown (mvT hZ (hw _ (List.mem_of_getElem? (i := 0) rfl))) rfl (hb hby at_1) stp) ?_
  refine own_up (S' := T0.setTop (mkF m 4 #[.val (.int die), .val (.int ra), .val (.int sa), .val (.int ba), .unset, .unset, .unset, .unset, .unset, .unset, .unset] [(.int (ra &&& (2147483647 : Int32)))])) (fun t stp => XS.iand X0.here hx rfl (hb hby at_3) rfl stp) ?_
  refine own_up (S' := T0.setTop (mkF m 7 #[.val (.int die), .val (.int ra), .val (.int sa), .val (.int ba), .unset, .unset, .unset, .unset, .unset, .unset, .unset] [(.int (1001 : Int32)), (.int (ra &&& (2147483647 : Int32)))])) (fun t stp => XT.sipushV X0.here hx rfl (1001 : Int32) (hb hby at_4) rfl stp) ?_
  refine own_up (S' := T0.setTop (mkF m 8 #[.val (.int die), .val (.int ra), .val (.int sa), .val (.int ba), .unset, .unset, .unset, .unset, .unset, .unset, .unset] [(.int ((ra &&& (2147483647 : Int32)) % (1001 : Int32)))])) (fun t stp => iremM X0 hx rfl (hb hby at_7) rfl (by decide) stp) ?_
  obtain ⟨rf, h_rf⟩ : ∃ z : Int32, z = ((ra &&& (2147483647 : Int32)) % (1001 : Int32)) := ⟨_, rfl⟩
  rw [← h_rf]
  refine own_up (S' := T0.setTop (mkF m 10 #[.val (.int die), .val (.int ra), .val (.int sa), .val (.int ba), .val (.int rf), .unset, .unset, .unset, .unset, .unset, .unset] [])) (fun t stp => XS.istore X0.here hx rfl (hb hby at_8) rfl (l' := #[.val (.int die), .val (.int ra), .val (.int sa), .val (.int ba), .val (.int rf), .unset, .unset, .unset, .unset, .unset, .unset]) rfl stp) ?_
  have hrf := own_k1 h_rf
  refine own_up (S' := T0.setTop (mkF m 11 #[.val (.int die), .val (.int ra), .val (.int sa), .val (.int ba), .val (.int rf), .unset, .unset, .unset, .unset, .unset, .unset] [(.int sa)])) (fun t stp => XS.iloadN X0.here hx rfl (hb hby at_10) rfl stp) ?_
  refine own_up (S' := T0.setTop (mkF m 13 #[.val (.int die), .val (.int ra), .val (.int sa), .val (.int ba), .val (.int rf), .unset, .unset, .unset, .unset, .unset, .unset] [(.int (2147483647 : Int32)), (.int sa)])) (fun t stp => X0.ldcI hx hown (mvT hZ (hw _ (List.mem_of_getElem? (i := 0) rfl))) rfl (hb hby at_11) stp) ?_
  refine own_up (S' := T0.setTop (mkF m 14 #[.val (.int die), .val (.int ra), .val (.int sa), .val (.int ba), .val (.int rf), .unset, .unset, .unset, .unset, .unset, .unset] [(.int (sa &&& (2147483647 : Int32)))])) (fun t stp => XS.iand X0.here hx rfl (hb hby at_13) rfl stp) ?_
  refine own_up (S' := T0.setTop (mkF m 17 #[.val (.int die), .val (.int ra), .val (.int sa), .val (.int ba), .val (.int rf), .unset, .unset, .unset, .unset, .unset, .unset] [(.int (1001 : Int32)), (.int (sa &&& (2147483647 : Int32)))])) (fun t stp => XT.sipushV X0.here hx rfl (1001 : Int32) (hb hby at_14) rfl stp) ?_
  refine own_up (S' := T0.setTop (mkF m 18 #[.val (.int die), .val (.int ra), .val (.int sa), .val (.int ba), .val (.int rf), .unset, .unset, .unset, .unset, .unset, .unset] [(.int ((sa &&& (2147483647 : Int32)) % (1001 : Int32)))])) (fun t stp => iremM X0 hx rfl (hb hby at_17) rfl (by decide) stp) ?_
  obtain ⟨sn, h_sn⟩ : ∃ z : Int32, z = ((sa &&& (2147483647 : Int32)) % (1001 : Int32)) := ⟨_, rfl⟩
  rw [← h_sn]
  refine own_up (S' := T0.setTop (mkF m 20 #[.val (.int die), .val (.int ra), .val (.int sa), .val (.int ba), .val (.int rf), .val (.int sn), .unset, .unset, .unset, .unset, .unset] [])) (fun t stp => XS.istore X0.here hx rfl (hb hby at_18) rfl (l' := #[.val (.int die), .val (.int ra), .val (.int sa), .val (.int ba), .val (.int rf), .val (.int sn), .unset, .unset, .unset, .unset, .unset]) rfl stp) ?_
  have hsn := own_k1 h_sn
  refine own_up (S' := T0.setTop (mkF m 21 #[.val (.int die), .val (.int ra), .val (.int sa), .val (.int ba), .val (.int rf), .val (.int sn), .unset, .unset, .unset, .unset, .unset] [(.int ba)])) (fun t stp => XS.iloadN X0.here hx rfl (hb hby at_20) rfl stp) ?_
  refine own_up (S' := T0.setTop (mkF m 23 #[.val (.int die), .val (.int ra), .val (.int sa), .val (.int ba), .val (.int rf), .val (.int sn), .unset, .unset, .unset, .unset, .unset] [(.int (2147483647 : Int32)), (.int ba)])) (fun t stp => X0.ldcI hx hown (mvT hZ (hw _ (List.mem_of_getElem? (i := 0) rfl))) rfl (hb hby at_21) stp) ?_
  refine own_up (S' := T0.setTop (mkF m 24 #[.val (.int die), .val (.int ra), .val (.int sa), .val (.int ba), .val (.int rf), .val (.int sn), .unset, .unset, .unset, .unset, .unset] [(.int (ba &&& (2147483647 : Int32)))])) (fun t stp => XS.iand X0.here hx rfl (hb hby at_23) rfl stp) ?_
  refine own_up (S' := T0.setTop (mkF m 27 #[.val (.int die), .val (.int ra), .val (.int sa), .val (.int ba), .val (.int rf), .val (.int sn), .unset, .unset, .unset, .unset, .unset] [(.int (2001 : Int32)), (.int (ba &&& (2147483647 : Int32)))])) (fun t stp => XT.sipushV X0.here hx rfl (2001 : Int32) (hb hby at_24) rfl stp) ?_
  refine own_up (S' := T0.setTop (mkF m 28 #[.val (.int die), .val (.int ra), .val (.int sa), .val (.int ba), .val (.int rf), .val (.int sn), .unset, .unset, .unset, .unset, .unset] [(.int ((ba &&& (2147483647 : Int32)) % (2001 : Int32)))])) (fun t stp => iremM X0 hx rfl (hb hby at_27) rfl (by decide) stp) ?_
  refine own_up (S' := T0.setTop (mkF m 31 #[.val (.int die), .val (.int ra), .val (.int sa), .val (.int ba), .val (.int rf), .val (.int sn), .unset, .unset, .unset, .unset, .unset] [(.int (1000 : Int32)), (.int ((ba &&& (2147483647 : Int32)) % (2001 : Int32)))])) (fun t stp => XT.sipushV X0.here hx rfl (1000 : Int32) (hb hby at_28) rfl stp) ?_
  refine own_up (S' := T0.setTop (mkF m 32 #[.val (.int die), .val (.int ra), .val (.int sa), .val (.int ba), .val (.int rf), .val (.int sn), .unset, .unset, .unset, .unset, .unset] [(.int (((ba &&& (2147483647 : Int32)) % (2001 : Int32)) - (1000 : Int32)))])) (fun t stp => XS.isub X0.here hx rfl (hb hby at_31) rfl stp) ?_
  obtain ⟨bn, h_bn⟩ : ∃ z : Int32, z = (((ba &&& (2147483647 : Int32)) % (2001 : Int32)) - (1000 : Int32)) := ⟨_, rfl⟩
  rw [← h_bn]
  refine own_up (S' := T0.setTop (mkF m 34 #[.val (.int die), .val (.int ra), .val (.int sa), .val (.int ba), .val (.int rf), .val (.int sn), .val (.int bn), .unset, .unset, .unset, .unset] [])) (fun t stp => XS.istore X0.here hx rfl (hb hby at_32) rfl (l' := #[.val (.int die), .val (.int ra), .val (.int sa), .val (.int ba), .val (.int rf), .val (.int sn), .val (.int bn), .unset, .unset, .unset, .unset]) rfl stp) ?_
  have hbn := own_k2 h_bn
  refine own_new X0 hx hZ hown (hw _ (List.mem_of_getElem? (i := 1) rfl)) (hw _ (List.mem_of_getElem? (i := 2) rfl)) (hw _ (List.mem_of_getElem? (i := 3) rfl)) e0 rfl (hb hby at_34) (by decide) (by decide) ?_
  intro T1 h1 oa hb1 X1 e1 E1 A1 D1
  have g_oa : n0 ≤ oa := Nat.le_trans Z0 (Nat.le_of_eq hb1.symm)
  have Zn2 := Nat.le_trans Z0 E1.1
  have hNz2 := own_Sn_le hN0 E1.1
  have Fid_oa : Fld Z h1 oa "com/example/escarmouche/escarmouche/rulesets/cyberpunk2020/Combatant" "id" "Ljava/lang/String;" .null := D1 (Or.inr (hw _ (List.mem_of_getElem? (i := 52) rfl))) (ty := (.object "java/lang/String")) (by decide)
  have Fside_oa : Fld Z h1 oa "com/example/escarmouche/escarmouche/rulesets/cyberpunk2020/Combatant" "side" "Ljava/lang/String;" .null := D1 (Or.inr (hw _ (List.mem_of_getElem? (i := 54) rfl))) (ty := (.object "java/lang/String")) (by decide)
  have Fref_oa : Fld Z h1 oa "com/example/escarmouche/escarmouche/rulesets/cyberpunk2020/Combatant" "ref" "I" (.int (0 : Int32)) := D1 (Or.inr (hw _ (List.mem_of_getElem? (i := 56) rfl))) (ty := .int) (by decide)
  have FcombatSense_oa : Fld Z h1 oa "com/example/escarmouche/escarmouche/rulesets/cyberpunk2020/Combatant" "combatSense" "I" (.int (0 : Int32)) := D1 (Or.inr (hw _ (List.mem_of_getElem? (i := 58) rfl))) (ty := .int) (by decide)
  have FinitiativeBonus_oa : Fld Z h1 oa "com/example/escarmouche/escarmouche/rulesets/cyberpunk2020/Combatant" "initiativeBonus" "I" (.int (0 : Int32)) := D1 (Or.inr (hw _ (List.mem_of_getElem? (i := 60) rfl))) (ty := .int) (by decide)
  have Fmouv_oa : Fld Z h1 oa "com/example/escarmouche/escarmouche/rulesets/cyberpunk2020/Combatant" "mouv" "I" (.int (0 : Int32)) := D1 (Or.inr (hw _ (List.mem_of_getElem? (i := 62) rfl))) (ty := .int) (by decide)
  show own_Ends p e below s (own_Q0 Z die ra sa ba h0 n0) room_1.cells room_1.slots (T1.setTop (mkF m 37 #[.val (.int die), .val (.int ra), .val (.int sa), .val (.int ba), .val (.int rf), .val (.int sn), .val (.int bn), .unset, .unset, .unset, .unset] [(.ref oa)]))
  refine own_up (S' := T1.setTop (mkF m 38 #[.val (.int die), .val (.int ra), .val (.int sa), .val (.int ba), .val (.int rf), .val (.int sn), .val (.int bn), .unset, .unset, .unset, .unset] [(.ref oa), (.ref oa)])) (fun t stp => XS.dup X1.here hx rfl (hb hby at_37) rfl rfl stp) ?_
  refine own_ldcv X1 hx hZ hown (hw _ (List.mem_of_getElem? (i := 4) rfl)) (fun d hd => hw d (own_sub d hd)) e1 hNz2 (hn1 ▸ N0) hkp own_ib (by decide) hch1 hcw [(.int (Jvm.Lit.byteI (97 : UInt16)))] (1 : Int32) ⟨by decide, rfl⟩ (by decide) rfl 4 (hb hby at_38) (by decide) (by decide) (by decide) (by decide) rfl ?_
  intro sg4 sb4 T4 h4 s4 hN4 hV4 hZ4 hown4 X4 e4 E4 Es4 Fs4 As4 IB4 Li4
  have Zn5 := Nat.le_trans Zn2 E4.1
  have A1_6 := A1.ext E4
  have Fid_oa_6 := Fid_oa.ext E4
  have Fside_oa_6 := Fside_oa.ext E4
  have Fref_oa_6 := Fref_oa.ext E4
  have FcombatSense_oa_6 := FcombatSense_oa.ext E4
  have FinitiativeBonus_oa_6 := FinitiativeBonus_oa.ext E4
  have Fmouv_oa_6 := Fmouv_oa.ext E4
  have Li4_0 := Li4
  have ne_sg4_oa : sg4 ≠ oa := ne_exa Es4 A1_6 (by decide)
  have ne_sb4_oa := own_ne_al A1_6 (hw _ (List.mem_of_getElem? (i := 2) rfl)) As4
  show own_Ends p e below s (own_Q0 Z die ra sa ba h0 n0) room_1.cells room_1.slots (T4.setTop (mkF m 40 #[.val (.int die), .val (.int ra), .val (.int sa), .val (.int ba), .val (.int rf), .val (.int sn), .val (.int bn), .unset, .unset, .unset, .unset] [(.ref sg4), (.ref oa), (.ref oa)]))
  refine own_ldcv X4 hx hZ4 hown4 (hw _ (List.mem_of_getElem? (i := 12) rfl)) (fun d hd => hw d (own_sub d hd)) e4 hN4 (hn1 ▸ N0) hkp IB4 (by decide) hch2 hcw [(.int (Jvm.Lit.byteI (98 : UInt16)))] (1 : Int32) ⟨by decide, rfl⟩ (by decide) rfl 4 (hb hby at_40) (by decide) (by decide) (by decide) (by decide) rfl ?_
  intro sg7 sb7 T7 h7 s7 hN7 hV7 hZ7 hown7 X7 e7 E7 Es7 Fs7 As7 IB7 Li7
  have Li4_7 : Lit s7 "com/example/escarmouche/escarmouche/rulesets/cyberpunk2020/CombatantInitiativePinLaw" 10 sg4 := Lit.stays (s := s4) (vm0 := s4.vm) (vm1 := s7.vm) Li4_0 hV7
  have Zn8 := Nat.le_trans Zn5 E7.1
  have A1_9 := A1_6.ext E7
  have Fid_oa_9 := Fid_oa_6.ext E7
  have Fside_oa_9 := Fside_oa_6.ext E7
  have Fref_oa_9 := Fref_oa_6.ext E7
  have FcombatSense_oa_9 := FcombatSense_oa_6.ext E7
  have FinitiativeBonus_oa_9 := FinitiativeBonus_oa_6.ext E7
  have Fmouv_oa_9 := Fmouv_oa_6.ext E7
  have Es4_9 := Es4.ext E7
  have Fs4_9 := Fs4.ext E7
  have As4_9 := own_Al_ext E7 As4
  have Li7_0 := Li7
  have ne_sg7_oa : sg7 ≠ oa := ne_exa Es7 A1_9 (by decide)
  have ne_sb7_oa := own_ne_al A1_9 (hw _ (List.mem_of_getElem? (i := 2) rfl)) As7
  show own_Ends p e below s (own_Q0 Z die ra sa ba h0 n0) room_1.cells room_1.slots (T7.setTop (mkF m 42 #[.val (.int die), .val (.int ra), .val (.int sa), .val (.int ba), .val (.int rf), .val (.int sn), .val (.int bn), .unset, .unset, .unset, .unset] [(.ref sg7), (.ref sg4), (.ref oa), (.ref oa)]))
  refine own_up (S' := T7.setTop (mkF m 44 #[.val (.int die), .val (.int ra), .val (.int sa), .val (.int ba), .val (.int rf), .val (.int sn), .val (.int bn), .unset, .unset, .unset, .unset] [(.int rf), (.ref sg7), (.ref sg4), (.ref oa), (.ref oa)])) (fun t stp => XS.iload X7.here hx rfl (hb hby at_42) rfl stp) ?_
  refine own_up (S' := T7.setTop (mkF m 46 #[.val (.int die), .val (.int ra), .val (.int sa), .val (.int ba), .val (.int rf), .val (.int sn), .val (.int bn), .unset, .unset, .unset, .unset] [(.int sn), (.int rf), (.ref sg7), (.ref sg4), (.ref oa), (.ref oa)])) (fun t stp => XS.iload X7.here hx rfl (hb hby at_44) rfl stp) ?_
  refine own_up (S' := T7.setTop (mkF m 48 #[.val (.int die), .val (.int ra), .val (.int sa), .val (.int ba), .val (.int rf), .val (.int sn), .val (.int bn), .unset, .unset, .unset, .unset] [(.int bn), (.int sn), (.int rf), (.ref sg7), (.ref sg4), (.ref oa), (.ref oa)])) (fun t stp => XS.iload X7.here hx rfl (hb hby at_46) rfl stp) ?_
  refine own_up (S' := T7.setTop (mkF m 49 #[.val (.int die), .val (.int ra), .val (.int sa), .val (.int ba), .val (.int rf), .val (.int sn), .val (.int bn), .unset, .unset, .unset, .unset] [(.int (0 : Int32)), (.int bn), (.int sn), (.int rf), (.ref sg7), (.ref sg4), (.ref oa), (.ref oa)])) (fun t stp => XT.iconstV X7.here hx rfl (0 : Int32) (hb hby at_48) rfl stp) ?_
  refine own_callI X7 hx hZ7 rfl hown7 (hw _ (List.mem_of_getElem? (i := 13) rfl)) (hw _ (List.mem_of_getElem? (i := 14) rfl)) (hw _ (List.mem_of_getElem? (i := 3) rfl)) (hw _ (List.mem_of_getElem? (i := 15) rfl)) (by decide) e7 hN7 (rm7 l Z a0 hw [] oa sg4 sg7 rf sn bn (0 : Int32) sb4 (Jvm.Lit.byteI (97 : UInt16)) sb7 (Jvm.Lit.byteI (98 : UInt16)) h7 n0 Zn8 Fid_oa_9 Fside_oa_9 Fref_oa_9 FcombatSense_oa_9 FinitiativeBonus_oa_9 Fmouv_oa_9 A1_9 g_oa Es4_9 Fs4_9 As4_9 Es7 Fs7 As7 (hrf.1) (hrf.2) (hsn.1) (hsn.2) (hbn.1) (hbn.2) (by decide) (by decide)) 1 oa [(.ref sg4), (.ref sg7), (.int rf), (.int sn), (.int bn), (.int (0 : Int32))] [(.ref oa)] (hb hby at_49) (lenOf own_pd5 rfl) (by decide) (by decide) (by decide) (by decide) rfl (by rw [hml]; rfl) rfl (by show 2 * 0 + _ ≤ _; exact Nat.le_of_eq rfl) rfl ?_
  intro T10 L10 r10 s10 hN10 hV10 hZ10 hown10 X10 q10
  have Li4_10 : Lit s10 "com/example/escarmouche/escarmouche/rulesets/cyberpunk2020/CombatantInitiativePinLaw" 10 sg4 := Lit.stays (s := s7) (vm0 := s7.vm) (vm1 := s10.vm) Li4_7 hV10
  have Li7_10 : Lit s10 "com/example/escarmouche/escarmouche/rulesets/cyberpunk2020/CombatantInitiativePinLaw" 12 sg7 := Lit.stays (s := s7) (vm0 := s7.vm) (vm1 := s10.vm) Li7_0 hV10
  obtain ⟨rfl, M10, K10, G10a_10, G10b_10, G10c_10⟩ := q10
  have N10 := Fr.app N0 M10
  have Zn11 := Nat.le_trans Zn8 K10.1
  have A1_12 := A1_9.keep K10
  have Es4_12 := Es4_9.keep K10
  have Fs4_12 := Fs4_9.keep K10 (ninS ne_sg4_oa nin0)
  have As4_12 := own_Al_keep K10 As4_9 (ninS ne_sb4_oa nin0)
  have Es7_12 := Es7.keep K10
  have Fs7_12 := Fs7.keep K10 (ninS ne_sg7_oa nin0)
  have As7_12 := own_Al_keep K10 As7 (ninS ne_sb7_oa nin0)
  show own_Ends p e below s (own_Q0 Z die ra sa ba h0 n0) room_1.cells room_1.slots (T10.setTop (mkF m 52 #[.val (.int die), .val (.int ra), .val (.int sa), .val (.int ba), .val (.int rf), .val (.int sn), .val (.int bn), .unset, .unset, .unset, .unset] [(.ref oa)]))
  refine own_up (S' := T10.setTop (mkF m 54 #[.val (.int die), .val (.int ra), .val (.int sa), .val (.int ba), .val (.int rf), .val (.int sn), .val (.int bn), .val (.ref oa), .unset, .unset, .unset] [])) (fun t stp => XS.astore X10.here hx rfl (hb hby at_52) rfl rfl (l' := #[.val (.int die), .val (.int ra), .val (.int sa), .val (.int ba), .val (.int rf), .val (.int sn), .val (.int bn), .val (.ref oa), .unset, .unset, .unset]) rfl stp) ?_
  refine own_new X10 hx hZ10 hown10 (hw _ (List.mem_of_getElem? (i := 1) rfl)) (hw _ (List.mem_of_getElem? (i := 2) rfl)) (hw _ (List.mem_of_getElem? (i := 3) rfl)) rfl rfl (hb hby at_54) (by decide) (by decide) ?_
  intro T13 h13 ob hb13 X13 e13 E13 A13 D13
  have ne13_oa_ob : oa ≠ ob := Nat.ne_of_lt (Nat.lt_of_lt_of_eq (A1_12.lt) hb13.symm)
  have ne13_sg4_ob : sg4 ≠ ob := Nat.ne_of_lt (Nat.lt_of_lt_of_eq (Es4_12.lt) hb13.symm)
  have ne13_sb4_ob : sb4 ≠ ob := Nat.ne_of_lt (Nat.lt_of_lt_of_eq (own_Al_lt As4_12) hb13.symm)
  have ne13_sg7_ob : sg7 ≠ ob := Nat.ne_of_lt (Nat.lt_of_lt_of_eq (Es7_12.lt) hb13.symm)
  have ne13_sb7_ob : sb7 ≠ ob := Nat.ne_of_lt (Nat.lt_of_lt_of_eq (own_Al_lt As7_12) hb13.symm)
  have g_ob : n0 ≤ ob := Nat.le_trans Zn11 (Nat.le_of_eq hb13.symm)
  have Zn14 := Nat.le_trans Zn11 E13.1
  have hNz14 := own_Sn_le hN10 E13.1
  have A1_15 := A1_12.ext E13
  have Es4_15 := Es4_12.ext E13
  have Fs4_15 := Fs4_12.ext E13
  have As4_15 := own_Al_ext E13 As4_12
  have Es7_15 := Es7_12.ext E13
  have Fs7_15 := Fs7_12.ext E13
  have As7_15 := own_Al_ext E13 As7_12
  have G10a_15 := G10a_10.ext E13
  have G10b_15 := G10b_10.ext E13
  have G10c_15 := G10c_10.ext E13
  have Fid_ob : Fld Z h13 ob "com/example/escarmouche/escarmouche/rulesets/cyberpunk2020/Combatant" "id" "Ljava/lang/String;" .null := D13 (Or.inr (hw _ (List.mem_of_getElem? (i := 52) rfl))) (ty := (.object "java/lang/String")) (by decide)
  have Fside_ob : Fld Z h13 ob "com/example/escarmouche/escarmouche/rulesets/cyberpunk2020/Combatant" "side" "Ljava/lang/String;" .null := D13 (Or.inr (hw _ (List.mem_of_getElem? (i := 54) rfl))) (ty := (.object "java/lang/String")) (by decide)
  have Fref_ob : Fld Z h13 ob "com/example/escarmouche/escarmouche/rulesets/cyberpunk2020/Combatant" "ref" "I" (.int (0 : Int32)) := D13 (Or.inr (hw _ (List.mem_of_getElem? (i := 56) rfl))) (ty := .int) (by decide)
  have FcombatSense_ob : Fld Z h13 ob "com/example/escarmouche/escarmouche/rulesets/cyberpunk2020/Combatant" "combatSense" "I" (.int (0 : Int32)) := D13 (Or.inr (hw _ (List.mem_of_getElem? (i := 58) rfl))) (ty := .int) (by decide)
  have FinitiativeBonus_ob : Fld Z h13 ob "com/example/escarmouche/escarmouche/rulesets/cyberpunk2020/Combatant" "initiativeBonus" "I" (.int (0 : Int32)) := D13 (Or.inr (hw _ (List.mem_of_getElem? (i := 60) rfl))) (ty := .int) (by decide)
  have Fmouv_ob : Fld Z h13 ob "com/example/escarmouche/escarmouche/rulesets/cyberpunk2020/Combatant" "mouv" "I" (.int (0 : Int32)) := D13 (Or.inr (hw _ (List.mem_of_getElem? (i := 62) rfl))) (ty := .int) (by decide)
  show own_Ends p e below s (own_Q0 Z die ra sa ba h0 n0) room_1.cells room_1.slots (T13.setTop (mkF m 57 #[.val (.int die), .val (.int ra), .val (.int sa), .val (.int ba), .val (.int rf), .val (.int sn), .val (.int bn), .val (.ref oa), .unset, .unset, .unset] [(.ref ob)]))
  refine own_up (S' := T13.setTop (mkF m 58 #[.val (.int die), .val (.int ra), .val (.int sa), .val (.int ba), .val (.int rf), .val (.int sn), .val (.int bn), .val (.ref oa), .unset, .unset, .unset] [(.ref ob), (.ref ob)])) (fun t stp => XS.dup X13.here hx rfl (hb hby at_57) rfl rfl stp) ?_
  refine own_ldca X13 hx hZ10 hown10 (hw _ (List.mem_of_getElem? (i := 4) rfl)) Li4_10 (hb hby at_58) rfl ?_
  show own_Ends p e below s (own_Q0 Z die ra sa ba h0 n0) room_1.cells room_1.slots (T13.setTop (mkF m 60 #[.val (.int die), .val (.int ra), .val (.int sa), .val (.int ba), .val (.int rf), .val (.int sn), .val (.int bn), .val (.ref oa), .unset, .unset, .unset] [(.ref sg4), (.ref ob), (.ref ob)]))
  refine own_ldca X13 hx hZ10 hown10 (hw _ (List.mem_of_getElem? (i := 12) rfl)) Li7_10 (hb hby at_60) rfl ?_
  show own_Ends p e below s (own_Q0 Z die ra sa ba h0 n0) room_1.cells room_1.slots (T13.setTop (mkF m 62 #[.val (.int die), .val (.int ra), .val (.int sa), .val (.int ba), .val (.int rf), .val (.int sn), .val (.int bn), .val (.ref oa), .unset, .unset, .unset] [(.ref sg7), (.ref sg4), (.ref ob), (.ref ob)]))
  refine own_up (S' := T13.setTop (mkF m 64 #[.val (.int die), .val (.int ra), .val (.int sa), .val (.int ba), .val (.int rf), .val (.int sn), .val (.int bn), .val (.ref oa), .unset, .unset, .unset] [(.int sn), (.ref sg7), (.ref sg4), (.ref ob), (.ref ob)])) (fun t stp => XS.iload X13.here hx rfl (hb hby at_62) rfl stp) ?_
  refine own_up (S' := T13.setTop (mkF m 66 #[.val (.int die), .val (.int ra), .val (.int sa), .val (.int ba), .val (.int rf), .val (.int sn), .val (.int bn), .val (.ref oa), .unset, .unset, .unset] [(.int rf), (.int sn), (.ref sg7), (.ref sg4), (.ref ob), (.ref ob)])) (fun t stp => XS.iload X13.here hx rfl (hb hby at_64) rfl stp) ?_
  refine own_up (S' := T13.setTop (mkF m 68 #[.val (.int die), .val (.int ra), .val (.int sa), .val (.int ba), .val (.int rf), .val (.int sn), .val (.int bn), .val (.ref oa), .unset, .unset, .unset] [(.int bn), (.int rf), (.int sn), (.ref sg7), (.ref sg4), (.ref ob), (.ref ob)])) (fun t stp => XS.iload X13.here hx rfl (hb hby at_66) rfl stp) ?_
  refine own_up (S' := T13.setTop (mkF m 69 #[.val (.int die), .val (.int ra), .val (.int sa), .val (.int ba), .val (.int rf), .val (.int sn), .val (.int bn), .val (.ref oa), .unset, .unset, .unset] [(.int (0 : Int32)), (.int bn), (.int rf), (.int sn), (.ref sg7), (.ref sg4), (.ref ob), (.ref ob)])) (fun t stp => XT.iconstV X13.here hx rfl (0 : Int32) (hb hby at_68) rfl stp) ?_
  refine own_callI X13 hx hZ10 rfl hown10 (hw _ (List.mem_of_getElem? (i := 13) rfl)) (hw _ (List.mem_of_getElem? (i := 14) rfl)) (hw _ (List.mem_of_getElem? (i := 3) rfl)) (hw _ (List.mem_of_getElem? (i := 15) rfl)) (by decide) e13 hNz14 (rm7 l Z a0 hw [] ob sg4 sg7 sn rf bn (0 : Int32) sb4 (Jvm.Lit.byteI (97 : UInt16)) sb7 (Jvm.Lit.byteI (98 : UInt16)) h13 n0 Zn14 Fid_ob Fside_ob Fref_ob FcombatSense_ob FinitiativeBonus_ob Fmouv_ob A13 g_ob Es4_15 Fs4_15 As4_15 Es7_15 Fs7_15 As7_15 (hsn.1) (hsn.2) (hrf.1) (hrf.2) (hbn.1) (hbn.2) (by decide) (by decide)) 1 ob [(.ref sg4), (.ref sg7), (.int sn), (.int rf), (.int bn), (.int (0 : Int32))] [(.ref ob)] (hb hby at_69) (lenOf own_pd5 rfl) (by decide) (by decide) (by decide) (by decide) rfl (by rw [hml]; rfl) rfl (by show 2 * 0 + _ ≤ _; exact Nat.le_of_eq rfl) rfl ?_
  intro T18 L18 r18 s18 hN18 hV18 hZ18 hown18 X18 q18
  have Li4_18 : Lit s18 "com/example/escarmouche/escarmouche/rulesets/cyberpunk2020/CombatantInitiativePinLaw" 10 sg4 := Lit.stays (s := s10) (vm0 := s10.vm) (vm1 := s18.vm) Li4_10 hV18
  have Li7_18 : Lit s18 "com/example/escarmouche/escarmouche/rulesets/cyberpunk2020/CombatantInitiativePinLaw" 12 sg7 := Lit.stays (s := s10) (vm0 := s10.vm) (vm1 := s18.vm) Li7_10 hV18
  obtain ⟨rfl, M18, K18, G18a_18, G18b_18, G18c_18⟩ := q18
  have N18 := Fr.app N10 M18
  have Zn19 := Nat.le_trans Zn14 K18.1
  have A1_20 := A1_15.keep K18
  have Es4_20 := Es4_15.keep K18
  have Fs4_20 := Fs4_15.keep K18 (ninS ne13_sg4_ob nin0)
  have As4_20 := own_Al_keep K18 As4_15 (ninS ne13_sb4_ob nin0)
  have Es7_20 := Es7_15.keep K18
  have Fs7_20 := Fs7_15.keep K18 (ninS ne13_sg7_ob nin0)
  have As7_20 := own_Al_keep K18 As7_15 (ninS ne13_sb7_ob nin0)
  have G10a_20 := G10a_15.keep K18 (ninS ne13_oa_ob nin0)
  have G10b_20 := G10b_15.keep K18 (ninS ne13_oa_ob nin0)
  have G10c_20 := G10c_15.keep K18 (ninS ne13_oa_ob nin0)
  have A13_20 := A13.keep K18
  show own_Ends p e below s (own_Q0 Z die ra sa ba h0 n0) room_1.cells room_1.slots (T18.setTop (mkF m 72 #[.val (.int die), .val (.int ra), .val (.int sa), .val (.int ba), .val (.int rf), .val (.int sn), .val (.int bn), .val (.ref oa), .unset, .unset, .unset] [(.ref ob)]))
  refine own_up (S' := T18.setTop (mkF m 74 #[.val (.int die), .val (.int ra), .val (.int sa), .val (.int ba), .val (.int rf), .val (.int sn), .val (.int bn), .val (.ref oa), .val (.ref ob), .unset, .unset] [])) (fun t stp => XS.astore X18.here hx rfl (hb hby at_72) rfl rfl (l' := #[.val (.int die), .val (.int ra), .val (.int sa), .val (.int ba), .val (.int rf), .val (.int sn), .val (.int bn), .val (.ref oa), .val (.ref ob), .unset, .unset]) rfl stp) ?_
  refine own_up (S' := T18.setTop (mkF m 76 #[.val (.int die), .val (.int ra), .val (.int sa), .val (.int ba), .val (.int rf), .val (.int sn), .val (.int bn), .val (.ref oa), .val (.ref ob), .unset, .unset] [(.int rf)])) (fun t stp => XS.iload X18.here hx rfl (hb hby at_74) rfl stp) ?_
  refine own_up (S' := T18.setTop (mkF m 78 #[.val (.int die), .val (.int ra), .val (.int sa), .val (.int ba), .val (.int rf), .val (.int sn), .val (.int bn), .val (.ref oa), .val (.ref ob), .unset, .unset] [(.int sn), (.int rf)])) (fun t stp => XS.iload X18.here hx rfl (hb hby at_76) rfl stp) ?_
  refine own_up (S' := T18.setTop (mkF m 79 #[.val (.int die), .val (.int ra), .val (.int sa), .val (.int ba), .val (.int rf), .val (.int sn), .val (.int bn), .val (.ref oa), .val (.ref ob), .unset, .unset] [(.int (rf + sn))])) (fun t stp => XS.iadd X18.here hx rfl (hb hby at_78) rfl stp) ?_
  refine own_up (S' := T18.setTop (mkF m 81 #[.val (.int die), .val (.int ra), .val (.int sa), .val (.int ba), .val (.int rf), .val (.int sn), .val (.int bn), .val (.ref oa), .val (.ref ob), .unset, .unset] [(.int bn), (.int (rf + sn))])) (fun t stp => XS.iload X18.here hx rfl (hb hby at_79) rfl stp) ?_
  refine own_up (S' := T18.setTop (mkF m 82 #[.val (.int die), .val (.int ra), .val (.int sa), .val (.int ba), .val (.int rf), .val (.int sn), .val (.int bn), .val (.ref oa), .val (.ref ob), .unset, .unset] [(.int ((rf + sn) + bn))])) (fun t stp => XS.iadd X18.here hx rfl (hb hby at_81) rfl stp) ?_
  obtain ⟨stt, h_stt⟩ : ∃ z : Int32, z = ((rf + sn) + bn) := ⟨_, rfl⟩
  rw [← h_stt]
  refine own_up (S' := T18.setTop (mkF m 84 #[.val (.int die), .val (.int ra), .val (.int sa), .val (.int ba), .val (.int rf), .val (.int sn), .val (.int bn), .val (.ref oa), .val (.ref ob), .val (.int stt), .unset] [])) (fun t stp => XS.istore X18.here hx rfl (hb hby at_82) rfl (l' := #[.val (.int die), .val (.int ra), .val (.int sa), .val (.int ba), .val (.int rf), .val (.int sn), .val (.int bn), .val (.ref oa), .val (.ref ob), .val (.int stt), .unset]) rfl stp) ?_
  refine own_up (S' := T18.setTop (mkF m 85 #[.val (.int die), .val (.int ra), .val (.int sa), .val (.int ba), .val (.int rf), .val (.int sn), .val (.int bn), .val (.ref oa), .val (.ref ob), .val (.int stt), .unset] [(.int die)])) (fun t stp => XS.iloadN X18.here hx rfl (hb hby at_84) rfl stp) ?_
  refine own_up (S' := T18.setTop (mkF m 87 #[.val (.int die), .val (.int ra), .val (.int sa), .val (.int ba), .val (.int rf), .val (.int sn), .val (.int bn), .val (.ref oa), .val (.ref ob), .val (.int stt), .unset] [(.int stt), (.int die)])) (fun t stp => XS.iload X18.here hx rfl (hb hby at_85) rfl stp) ?_
  refine own_up (S' := T18.setTop (mkF m 88 #[.val (.int die), .val (.int ra), .val (.int sa), .val (.int ba), .val (.int rf), .val (.int sn), .val (.int bn), .val (.ref oa), .val (.ref ob), .val (.int stt), .unset] [(.int (die + stt))])) (fun t stp => XS.iadd X18.here hx rfl (hb hby at_87) rfl stp) ?_
  obtain ⟨xq, h_xq⟩ : ∃ z : Int32, z = (die + stt) := ⟨_, rfl⟩
  rw [← h_xq]
  refine own_up (S' := T18.setTop (mkF m 90 #[.val (.int die), .val (.int ra), .val (.int sa), .val (.int ba), .val (.int rf), .val (.int sn), .val (.int bn), .val (.ref oa), .val (.ref ob), .val (.int stt), .val (.int xq)] [])) (fun t stp => XS.istore X18.here hx rfl (hb hby at_88) rfl (l' := #[.val (.int die), .val (.int ra), .val (.int sa), .val (.int ba), .val (.int rf), .val (.int sn), .val (.int bn), .val (.ref oa), .val (.ref ob), .val (.int stt), .val (.int xq)]) rfl stp) ?_
  refine own_up (S' := T18.setTop (mkF m 92 #[.val (.int die), .val (.int ra), .val (.int sa), .val (.int ba), .val (.int rf), .val (.int sn), .val (.int bn), .val (.ref oa), .val (.ref ob), .val (.int stt), .val (.int xq)] [(.ref oa)])) (fun t stp => XS.aload X18.here hx rfl (hb hby at_90) rfl rfl stp) ?_
  refine own_up (S' := T18.setTop (mkF m 93 #[.val (.int die), .val (.int ra), .val (.int sa), .val (.int ba), .val (.int rf), .val (.int sn), .val (.int bn), .val (.ref oa), .val (.ref ob), .val (.int stt), .val (.int xq)] [(.int die), (.ref oa)])) (fun t stp => XS.iloadN X18.here hx rfl (hb hby at_92) rfl stp) ?_
  refine own_callV X18 hx hZ18 hown18 (hw _ (List.mem_of_getElem? (i := 63) rfl)) (hw _ (List.mem_of_getElem? (i := 64) rfl)) (hw _ (List.mem_of_getElem? (i := 66) rfl)) (hw _ (List.mem_of_getElem? (i := 65) rfl)) (hw _ (List.mem_of_getElem? (i := 3) rfl)) (hw _ (List.mem_of_getElem? (i := 67) rfl)) (by decide) rfl hN18 (rm8 l Z a0 hw [] oa die rf sn bn T18.heap n0 Zn19 G10a_20 G10b_20 G10c_20) 0 A1_20 [(.int die)] [] (hb hby at_93) (lenOf own_pd6 rfl) (by decide) (by decide) (by decide) (by decide) rfl (by rw [hml]; rfl) rfl (by show 2 * 0 + _ ≤ _; exact Nat.le_of_eq rfl) rfl ?_
  intro T21 L21 r21 s21 hN21 hV21 hZ21 hown21 X21 q21
  have Li4_21 : Lit s21 "com/example/escarmouche/escarmouche/rulesets/cyberpunk2020/CombatantInitiativePinLaw" 10 sg4 := Lit.stays (s := s18) (vm0 := s18.vm) (vm1 := s21.vm) Li4_18 hV21
  have Li7_21 : Lit s21 "com/example/escarmouche/escarmouche/rulesets/cyberpunk2020/CombatantInitiativePinLaw" 12 sg7 := Lit.stays (s := s18) (vm0 := s18.vm) (vm1 := s21.vm) Li7_18 hV21
  obtain ⟨rfl, M21, e21⟩ := q21
  rw [e21] at hN21
  have N21 := Fr.app N18 M21
  show own_Ends p e below s (own_Q0 Z die ra sa ba h0 n0) room_1.cells room_1.slots (T21.setTop (mkF m 96 #[.val (.int die), .val (.int ra), .val (.int sa), .val (.int ba), .val (.int rf), .val (.int sn), .val (.int bn), .val (.ref oa), .val (.ref ob), .val (.int stt), .val (.int xq)] [(.int (((die + rf) + sn) + bn))]))
  refine own_up (S' := T21.setTop (mkF m 98 #[.val (.int die), .val (.int ra), .val (.int sa), .val (.int ba), .val (.int rf), .val (.int sn), .val (.int bn), .val (.ref oa), .val (.ref ob), .val (.int stt), .val (.int xq)] [(.int xq), (.int (((die + rf) + sn) + bn))])) (fun t stp => XS.iload X21.here hx rfl (hb hby at_96) rfl stp) ?_
  have hc98_22 : (((die + rf) + sn) + bn) = xq := by rw [h_xq, h_stt]; ac_rfl
  have ihc98_22 : (((die + rf) + sn) + bn).toInt = xq.toInt := own_ieq hc98_22
  refine own_up (S' := T21.setTop (mkF m 101 #[.val (.int die), .val (.int ra), .val (.int sa), .val (.int ba), .val (.int rf), .val (.int sn), .val (.int bn), .val (.ref oa), .val (.ref ob), .val (.int stt), .val (.int xq)] [])) (fun t stp => XS.icmpNo X21.here hx rfl (hb hby at_98) rfl (XT.ii_ne_f hc98_22) stp) ?_
  refine own_up (S' := T21.setTop (mkF m 103 #[.val (.int die), .val (.int ra), .val (.int sa), .val (.int ba), .val (.int rf), .val (.int sn), .val (.int bn), .val (.ref oa), .val (.ref ob), .val (.int stt), .val (.int xq)] [(.ref ob)])) (fun t stp => XS.aload X21.here hx rfl (hb hby at_101) rfl rfl stp) ?_
  refine own_up (S' := T21.setTop (mkF m 104 #[.val (.int die), .val (.int ra), .val (.int sa), .val (.int ba), .val (.int rf), .val (.int sn), .val (.int bn), .val (.ref oa), .val (.ref ob), .val (.int stt), .val (.int xq)] [(.int die), (.ref ob)])) (fun t stp => XS.iloadN X21.here hx rfl (hb hby at_103) rfl stp) ?_
  refine own_callV X21 hx hZ21 hown21 (hw _ (List.mem_of_getElem? (i := 63) rfl)) (hw _ (List.mem_of_getElem? (i := 64) rfl)) (hw _ (List.mem_of_getElem? (i := 66) rfl)) (hw _ (List.mem_of_getElem? (i := 65) rfl)) (hw _ (List.mem_of_getElem? (i := 3) rfl)) (hw _ (List.mem_of_getElem? (i := 67) rfl)) (by decide) e21 hN21 (rm8 l Z a0 hw [] ob die sn rf bn T18.heap n0 Zn19 G18a_18 G18b_18 G18c_18) 0 A13_20 [(.int die)] [] (hb hby at_104) (lenOf own_pd6 rfl) (by decide) (by decide) (by decide) (by decide) rfl (by rw [hml]; rfl) rfl (by show 2 * 0 + _ ≤ _; exact Nat.le_of_eq rfl) rfl ?_
  intro T23 L23 r23 s23 hN23 hV23 hZ23 hown23 X23 q23
  have Li4_23 : Lit s23 "com/example/escarmouche/escarmouche/rulesets/cyberpunk2020/CombatantInitiativePinLaw" 10 sg4 := Lit.stays (s := s21) (vm0 := s21.vm) (vm1 := s23.vm) Li4_21 hV23
  have Li7_23 : Lit s23 "com/example/escarmouche/escarmouche/rulesets/cyberpunk2020/CombatantInitiativePinLaw" 12 sg7 := Lit.stays (s := s21) (vm0 := s21.vm) (vm1 := s23.vm) Li7_21 hV23
  obtain ⟨rfl, M23, e23⟩ := q23
  rw [e23] at hN23
  have N23 := Fr.app N21 M23
  show own_Ends p e below s (own_Q0 Z die ra sa ba h0 n0) room_1.cells room_1.slots (T23.setTop (mkF m 107 #[.val (.int die), .val (.int ra), .val (.int sa), .val (.int ba), .val (.int rf), .val (.int sn), .val (.int bn), .val (.ref oa), .val (.ref ob), .val (.int stt), .val (.int xq)] [(.int (((die + sn) + rf) + bn))]))
  refine own_up (S' := T23.setTop (mkF m 109 #[.val (.int die), .val (.int ra), .val (.int sa), .val (.int ba), .val (.int rf), .val (.int sn), .val (.int bn), .val (.ref oa), .val (.ref ob), .val (.int stt), .val (.int xq)] [(.int xq), (.int (((die + sn) + rf) + bn))])) (fun t stp => XS.iload X23.here hx rfl (hb hby at_107) rfl stp) ?_
  have hc109_24 : (((die + sn) + rf) + bn) = xq := by rw [h_xq, h_stt]; ac_rfl
  have ihc109_24 : (((die + sn) + rf) + bn).toInt = xq.toInt := own_ieq hc109_24
  refine own_up (S' := T23.setTop (mkF m 112 #[.val (.int die), .val (.int ra), .val (.int sa), .val (.int ba), .val (.int rf), .val (.int sn), .val (.int bn), .val (.ref oa), .val (.ref ob), .val (.int stt), .val (.int xq)] [])) (fun t stp => XS.icmpNo X23.here hx rfl (hb hby at_109) rfl (XT.ii_ne_f hc109_24) stp) ?_
  refine own_up (S' := T23.setTop (mkF m 113 #[.val (.int die), .val (.int ra), .val (.int sa), .val (.int ba), .val (.int rf), .val (.int sn), .val (.int bn), .val (.ref oa), .val (.ref ob), .val (.int stt), .val (.int xq)] [(.int (1 : Int32))])) (fun t stp => XT.iconstV X23.here hx rfl (1 : Int32) (hb hby at_112) rfl stp) ?_
  refine own_up (S' := T23.setTop (mkF m 117 #[.val (.int die), .val (.int ra), .val (.int sa), .val (.int ba), .val (.int rf), .val (.int sn), .val (.int bn), .val (.ref oa), .val (.ref ob), .val (.int stt), .val (.int xq)] [(.int (1 : Int32))])) (fun t stp => XS.goto X23.here hx rfl (pc0 := 113) (pc' := 117) rfl (hb hby at_113) (by decide) (by decide) stp) ?_
  refine own_retN X23 hx hlk (t := .boolean) hret (by simp) (z' := (1 : Int32)) rfl (hb hby at_117) hN23 e23 (by decide) (by decide) ?_
  show own_Q0 Z die ra sa ba h0 n0 _ T23.heap _
  rw [e23]
  exact ⟨rfl, N23⟩
set_option maxRecDepth 65536 in
set_option maxHeartbeats 40000000 in
theorem comes_1 {Post : Tables → Env → Array Value → State → Outcome → State → Prop} (hpost : ∀ tb e args s v u, (limb_1_1.after args s (.returned v) u = true ∧ limb_1_2.after args s (.returned v) u = true ∧ True) → ReturnedEndW s (.returned v) u (Jvm.fieldLocs frame_1_writes args s ++ Jvm.arrayLocs frame_1_arrays args s ++ Jvm.staticLocs frame_1_statics s) 32 8320 → Post tb e args s (.returned v) u) :
    ArmFor flags0 classFile x code maxLocals ret World_1 tables_1 room_1 Calls_1 rest_1 Pre_1 Post := by
  intro l hfl _ _ p e ha hc hk s m args below hf hA hF happ hP
  obtain ⟨hcalls, hrest, hpre⟩ := hP
  obtain ⟨-, -, -, hnamed, -, -, -, hat⟩ := (Spec.applies_iff hf).mp happ
  obtain ⟨hg, hn⟩ := and_e (Cond.before_iff.mp (show (Jvm.Cond.and given_1 narrow_1).before args s = true from hpre))
  obtain ⟨g0, k0⟩ := and_e hg
  obtain ⟨g1, k1⟩ := and_e k0
  obtain ⟨g2, k2⟩ := and_e k1
  obtain ⟨g3, k3⟩ := and_e k2
  obtain ⟨w0, w1, w2, w3, rfl⟩ : ∃ w0 w1 w2 w3 : Value, args = #[w0, w1, w2, w3] := by
    have hs : args.size = 4 := by simpa [Cond.value, given_1] using g0
    obtain ⟨L⟩ := args
    match L, hs with
    | [w0, w1, w2, w3], _ => exact ⟨w0, w1, w2, w3, rfl⟩
  have hw := fun d (hd : d ∈ tables_1) => atoms_spec (ws := Jvm.Cond.code x code maxLocals ret :: tables_1) hat d (List.mem_cons_of_mem _ hd)
  obtain ⟨i0, ei0⟩ := is_v g1
  obtain rfl : w0 = (.int i0) := Option.some.inj ei0
  obtain ⟨i1, ei1⟩ := is_v g2
  obtain rfl : w1 = (.int i1) := Option.some.inj ei1
  obtain ⟨i2, ei2⟩ := is_v g3
  obtain rfl : w2 = (.int i2) := Option.some.inj ei2
  obtain ⟨i3, ei3⟩ := is_v k3
  obtain rfl : w3 = (.int i3) := Option.some.inj ei3
  obtain ⟨hsets, hown0⟩ := atoms_of _ (rest_1_c_eq ▸ (show rest_1_c.before _ s = true from hrest))
  obtain ⟨n, o, h1, h2, h3, _, L, rfl, ⟨rfl, N⟩, hq⟩ := rm0 l s _ hw tables_1 i0 i1 i2 i3 s.heap s.heap.size (Nat.le_refl _) (fun _ _ q => q) rfl (hcalls.1 _ (List.mem_of_getElem? (i := 6) rfl)) (hcalls.1 _ (List.mem_of_getElem? (i := 7) rfl)) (hsets _ (List.mem_of_getElem? (i := 2) rfl)) p e ha hc hk s m _ below hf ((Spec.applies_iff_loose hf).mp happ).1 ⟨rfl, State.Warmed39.refl s, rfl, IB.start⟩ trivial
  refine ⟨n, _, h1, h2, h3, hpost _ _ _ _ _ _ ⟨Cond.after_iff.mpr rfl, Cond.after_iff.mpr (eq_i res_at (Term.int_eval (1)) rfl), trivial⟩ ⟨hq.1, hq.2.1, hq.2.2.1, (hq.2.2.2.sift fun y hy => Or.inr (N y hy)).mono (by decide) (by decide)⟩⟩
theorem main_1_1 : Claimed_1_1 := comes_1 fun _ _ _ _ _ _ h hF => ⟨h.1, hF⟩
theorem main_1_2 : Claimed_1_2 := comes_1 fun _ _ _ _ _ _ h hF => ⟨h.2.1, hF⟩
end Jvm.Pilot.@@N@@
namespace Jvm.Pilot.@@N@@
open Jvm Jvm.ClassFile Sem Op Lib Jvm.Free Jvm.Stand Jvm.Pilot.@@N@@.Jvm.D
/-! MADE BY PROGRAM (witnessworld.py) out of the Statement's table words and the real class files: 21 classes; the members and pool entries that the words name. The judged class is class 1, her method 1. -/
namespace start1
open Jvm.ClassFile
def u (s : String) : CpInfo := .utf8 (stringToUtf16 s)
/-- a pool by its gaps: so many unusable entries, then the entry; so many at the end -/
def gap : Nat → List CpInfo → List CpInfo
  | 0, r => r
  | n + 1, r => .unusable :: gap n r
def poolList (es : List (Nat × CpInfo)) (last : Nat) : List CpInfo := es.foldr (fun e r => gap e.1 (e.2 :: r)) (gap last [])
def pool (es : List (Nat × CpInfo)) (last : Nat) : Array CpInfo := ⟨poolList es last⟩
def fileOf (pool : Array CpInfo) (this : Nat) (attrs : Array Attribute := #[]) (ms : Array MethodInfo := #[]) (fl : Nat := 33) (sup : Nat := 0) (ifs : Array Nat := #[]) (fds : Array FieldInfo := #[]) : ClassFile where
  minorVersion := 0
  majorVersion := 65
  constantPool := pool
  accessFlags := fl
  thisClass := this
  superClass := sup
  interfaces := ifs
  fields := fds
  methods := ms
  attributes := attrs
def plain (name : String) (sup : Option ClassId) : Class where
  name := name
  kind := .ordinary
  loader := none
  accessFlags := 33
  super := sup
  interfaces := #[]
  cf := none
  fields := #[]
  methods := #[]
  instanceTypes := #[]
  staticTypes := #[]
  resolved := #[]
  callSites := []
  init := .initialized
  statics := none
  mirror := none

def pool0 : Array CpInfo := pool [(5, u "<init>"), (0, u "()V"), (1, .class_ 10), (1, u "java/lang/Object")] 113

def k0c0 : Code := { maxStack := 0, maxLocals := 1, code := object_method_1_code, exceptionTable := #[], attributes := #[] }
def k0m0 : Method := { name := "<init>", desc := "()V", sig := { parameters := [], returnType := none }, accessFlags := 1, code := some k0c0 }
/-- java/lang/Object -/
def k0 : Class := { plain "java/lang/Object" none with
  accessFlags := 33
  interfaces := #[]
  cf := some (fileOf pool0 8 #[] #[{ accessFlags := 1, nameIndex := 5, descriptorIndex := 6, attributes := #[] }] 33 0 #[] #[])
  fields := #[]
  methods := #[k0m0]
  instanceTypes := #[]
  staticTypes := #[]
  resolved := Array.replicate 124 none
  statics := none }

def pool1 : Array CpInfo := pool [(2, .class_ 4), (1, u "java/lang/Object"), (0, u "<init>"), (0, u "()V"), (0, .integer 2147483647), (0, .class_ 9), (0, u "com/example/escarmouche/escarmouche/rulesets/cyberpunk2020/Combatant"), (0, .string 11), (0, u "a"), (0, .string 13), (0, u "b"), (0, .methodref 8 15), (0, .nameAndType 5 16), (0, u "(Ljava/lang/String;Ljava/lang/String;IIII)V"), (0, .methodref 8 18), (0, .nameAndType 19 20), (0, u "initiative"), (0, u "(I)I"), (0, .class_ 22), (0, u "com/example/escarmouche/escarmouche/rulesets/cyberpunk2020/CombatantInitiativePinLaw"), (2, u "law"), (0, u "(IIII)Z")] 3

def k1m0 : Method := { name := "<init>", desc := "()V", sig := { parameters := [], returnType := none }, accessFlags := 2, code := none }
def k1c1 : Code := { maxStack := 8, maxLocals := 11, code := code, exceptionTable := #[], attributes := #[] }
def k1m1 : Method := { name := "law", desc := "(IIII)Z", sig := { parameters := [.int, .int, .int, .int], returnType := some .boolean }, accessFlags := 9, code := some k1c1 }
/-- com/example/escarmouche/escarmouche/rulesets/cyberpunk2020/CombatantInitiativePinLaw -/
def k1 : Class := { plain "com/example/escarmouche/escarmouche/rulesets/cyberpunk2020/CombatantInitiativePinLaw" (some 0) with
  accessFlags := 49
  interfaces := #[]
  cf := some (fileOf pool1 21 #[] #[{ accessFlags := 2, nameIndex := 5, descriptorIndex := 6, attributes := #[] }, { accessFlags := 9, nameIndex := 25, descriptorIndex := 26, attributes := #[] }] 49 2 #[] #[])
  fields := #[]
  methods := #[k1m0, k1m1]
  instanceTypes := #[]
  staticTypes := #[]
  resolved := Array.replicate 30 none
  statics := none }

def pool2 : Array CpInfo := pool [(1, .methodref 2 3), (0, .class_ 4), (0, .nameAndType 5 6), (0, u "java/lang/Object"), (0, u "<init>"), (0, u "()V"), (0, .class_ 8), (0, u "java/lang/Record")] 13

def k2c0 : Code := { maxStack := 1, maxLocals := 1, code := jdk_30_method_1_code, exceptionTable := #[], attributes := #[] }
def k2m0 : Method := { name := "<init>", desc := "()V", sig := { parameters := [], returnType := none }, accessFlags := 4, code := some k2c0 }
/-- java/lang/Record -/
def k2 : Class := { plain "java/lang/Record" (some 0) with
  accessFlags := 1057
  interfaces := #[]
  cf := some (fileOf pool2 7 #[] #[{ accessFlags := 4, nameIndex := 5, descriptorIndex := 6, attributes := #[] }] 1057 2 #[] #[])
  fields := #[]
  methods := #[k2m0]
  instanceTypes := #[]
  staticTypes := #[]
  resolved := Array.replicate 22 none
  statics := none }

def pool3 : Array CpInfo := pool [(1, .methodref 2 3), (0, .class_ 4), (0, .nameAndType 5 6), (0, u "java/lang/Record"), (0, u "<init>"), (0, u "()V"), (0, .methodref 8 9), (0, .class_ 10), (0, .nameAndType 11 12), (0, u "com/example/escarmouche/escarmouche/rulesets/Combatants"), (0, u "requireIdAndSide"), (0, u "(Ljava/lang/String;Ljava/lang/String;)V"), (0, .string 14), (0, u "ref"), (0, .class_ 16), (0, u "com/example/escarmouche/escarmouche/rulesets/cyberpunk2020/Combatant"), (0, .methodref 18 19), (0, .class_ 20), (0, .nameAndType 21 22), (0, u "com/example/escarmouche/escarmouche/rulesets/Bounds"), (0, u "requireWithin"), (0, u "(Ljava/lang/String;III)V"), (0, .string 24), (0, u "combatSense"), (0, .string 26), (0, u "initiativeBonus"), (0, .string 28), (0, u "mouv"), (0, .fieldref 15 30), (0, .nameAndType 31 32), (0, u "id"), (0, u "Ljava/lang/String;"), (0, .fieldref 15 34), (0, .nameAndType 35 32), (0, u "side"), (0, .fieldref 15 37), (0, .nameAndType 14 38), (0, u "I"), (0, .fieldref 15 40), (0, .nameAndType 24 38), (0, .fieldref 15 42), (0, .nameAndType 26 38), (0, .fieldref 15 44), (0, .nameAndType 28 38), (12, u "LIMIT"), (2, u "(Ljava/lang/String;Ljava/lang/String;IIII)V"), (3, u "initiative"), (0, u "(I)I")] 28

def k3c0 : Code := { maxStack := 4, maxLocals := 7, code := prog_44_method_1_code, exceptionTable := #[], attributes := #[] }
def k3m0 : Method := { name := "<init>", desc := "(Ljava/lang/String;Ljava/lang/String;IIII)V", sig := { parameters := [(.object "java/lang/String"), (.object "java/lang/String"), .int, .int, .int, .int], returnType := none }, accessFlags := 1, code := some k3c0 }
def k3c1 : Code := { maxStack := 2, maxLocals := 2, code := prog_44_method_2_code, exceptionTable := #[], attributes := #[] }
def k3m1 : Method := { name := "initiative", desc := "(I)I", sig := { parameters := [.int], returnType := some .int }, accessFlags := 1, code := some k3c1 }
/-- com/example/escarmouche/escarmouche/rulesets/cyberpunk2020/Combatant -/
def k3 : Class := { plain "com/example/escarmouche/escarmouche/rulesets/cyberpunk2020/Combatant" (some 2) with
  accessFlags := 49
  interfaces := #[]
  cf := some (fileOf pool3 15 #[] #[{ accessFlags := 1, nameIndex := 5, descriptorIndex := 60, attributes := #[] }, { accessFlags := 1, nameIndex := 64, descriptorIndex := 65, attributes := #[] }] 49 2 #[] #[{ accessFlags := 18, nameIndex := 31, descriptorIndex := 32, attributes := #[] }, { accessFlags := 18, nameIndex := 35, descriptorIndex := 32, attributes := #[] }, { accessFlags := 18, nameIndex := 14, descriptorIndex := 38, attributes := #[] }, { accessFlags := 18, nameIndex := 24, descriptorIndex := 38, attributes := #[] }, { accessFlags := 18, nameIndex := 26, descriptorIndex := 38, attributes := #[] }, { accessFlags := 18, nameIndex := 28, descriptorIndex := 38, attributes := #[] }, { accessFlags := 25, nameIndex := 57, descriptorIndex := 38, attributes := #[] }])
  fields := #[{ name := "id", type := (.object "java/lang/String"), accessFlags := 18, slot := 0, constantValue := 0 }, { name := "side", type := (.object "java/lang/String"), accessFlags := 18, slot := 1, constantValue := 0 }, { name := "ref", type := .int, accessFlags := 18, slot := 2, constantValue := 0 }, { name := "combatSense", type := .int, accessFlags := 18, slot := 3, constantValue := 0 }, { name := "initiativeBonus", type := .int, accessFlags := 18, slot := 4, constantValue := 0 }, { name := "mouv", type := .int, accessFlags := 18, slot := 5, constantValue := 0 }, { name := "LIMIT", type := .int, accessFlags := 25, slot := 0, constantValue := 0 }]
  methods := #[k3m0, k3m1]
  instanceTypes := #[(.object "java/lang/String"), (.object "java/lang/String"), .int, .int, .int, .int]
  staticTypes := #[.int]
  resolved := Array.replicate 94 none
  statics := none }

def pool4 : Array CpInfo := pool [(1, .class_ 2), (0, u "java/io/Serializable"), (0, .class_ 4), (0, u "java/lang/Object")] 2

/-- java/io/Serializable -/
def k4 : Class := { plain "java/io/Serializable" (some 0) with
  accessFlags := 1537
  interfaces := #[]
  cf := some (fileOf pool4 1 #[] #[] 1537 3 #[] #[])
  fields := #[]
  methods := #[]
  instanceTypes := #[]
  staticTypes := #[]
  resolved := Array.replicate 7 none
  statics := none }

def pool5 : Array CpInfo := pool [(1, .class_ 2), (0, u "java/lang/Comparable"), (0, .class_ 4), (0, u "java/lang/Object")] 7

/-- java/lang/Comparable -/
def k5 : Class := { plain "java/lang/Comparable" (some 0) with
  accessFlags := 1537
  interfaces := #[]
  cf := some (fileOf pool5 1 #[] #[] 1537 3 #[] #[])
  fields := #[]
  methods := #[]
  instanceTypes := #[]
  staticTypes := #[]
  resolved := Array.replicate 12 none
  statics := none }

def pool6 : Array CpInfo := pool [(2, .class_ 4), (1, u "java/lang/CharSequence"), (42, .class_ 48), (0, u "java/lang/CharSequence$1CodePointIterator"), (10, .class_ 60), (0, u "java/lang/CharSequence$1CharIterator"), (5, .class_ 67), (0, u "java/lang/Object")] 63

/-- java/lang/CharSequence -/
def k6 : Class := { plain "java/lang/CharSequence" (some 0) with
  accessFlags := 1537
  interfaces := #[]
  cf := some (fileOf pool6 2 #[.nestMembers #[47, 59]] #[] 1537 66 #[] #[])
  fields := #[]
  methods := #[]
  instanceTypes := #[]
  staticTypes := #[]
  resolved := Array.replicate 131 none
  statics := none }

def pool7 : Array CpInfo := pool [(1, .class_ 2), (0, u "java/lang/constant/Constable"), (0, .class_ 4), (0, u "java/lang/Object")] 6

/-- java/lang/constant/Constable -/
def k7 : Class := { plain "java/lang/constant/Constable" (some 0) with
  accessFlags := 1537
  interfaces := #[]
  cf := some (fileOf pool7 1 #[] #[] 1537 3 #[] #[])
  fields := #[]
  methods := #[]
  instanceTypes := #[]
  staticTypes := #[]
  resolved := Array.replicate 11 none
  statics := none }

def pool8 : Array CpInfo := pool [(1, .class_ 2), (0, u "java/lang/constant/ConstantDesc"), (0, .class_ 4), (0, u "java/lang/Object")] 32

/-- java/lang/constant/ConstantDesc -/
def k8 : Class := { plain "java/lang/constant/ConstantDesc" (some 0) with
  accessFlags := 1537
  interfaces := #[]
  cf := some (fileOf pool8 1 #[] #[] 1537 3 #[] #[])
  fields := #[]
  methods := #[]
  instanceTypes := #[]
  staticTypes := #[]
  resolved := Array.replicate 37 none
  statics := none }

def pool9 : Array CpInfo := pool [(2, .class_ 4), (1, u "java/lang/Object"), (0, u "<init>"), (0, u "()V"), (2, .fieldref 10 11), (0, .class_ 12), (0, .nameAndType 13 14), (0, u "java/lang/String"), (0, u "value"), (0, u "[B"), (2, u "coder"), (0, u "B"), (2, u "hash"), (0, u "I"), (2, u "hashIsZero"), (0, u "Z"), (13, u "COMPACT_STRINGS"), (101, u "()Z"), (432, .class_ 576), (0, u "java/lang/CharSequence"), (22, u "CASE_INSENSITIVE_ORDER"), (0, u "Ljava/util/Comparator;"), (91, u "isEmpty"), (408, u "serialPersistentFields"), (0, u "[Ljava/io/ObjectStreamField;"), (0, .class_ 1104), (0, u "java/lang/String$CaseInsensitiveComparator"), (1, .class_ 1107), (0, u "java/io/Serializable"), (0, .class_ 1109), (0, u "java/lang/Comparable"), (0, .class_ 1111), (0, u "java/lang/constant/Constable"), (0, .class_ 1113), (0, u "java/lang/constant/ConstantDesc"), (2, u "serialVersionUID"), (0, u "J"), (3, u "REPL"), (0, u "C"), (2, u "LATIN1"), (1, u "UTF16")] 323

def k9m0 : Method := { name := "<init>", desc := "()V", sig := { parameters := [], returnType := none }, accessFlags := 1, code := none }
def k9c1 : Code := { maxStack := 1, maxLocals := 1, code := jdk_42_method_55_code, exceptionTable := #[], attributes := #[] }
def k9m1 : Method := { name := "isEmpty", desc := "()Z", sig := { parameters := [], returnType := some .boolean }, accessFlags := 1, code := some k9c1 }
/-- java/lang/String -/
def k9 : Class := { plain "java/lang/String" (some 0) with
  accessFlags := 49
  interfaces := #[4, 5, 6, 7, 8]
  cf := some (fileOf pool9 10 #[.nestMembers #[1103]] #[{ accessFlags := 1, nameIndex := 5, descriptorIndex := 6, attributes := #[] }, { accessFlags := 1, nameIndex := 692, descriptorIndex := 142, attributes := #[] }] 49 2 #[1106, 1108, 575, 1110, 1112] #[{ accessFlags := 18, nameIndex := 13, descriptorIndex := 14, attributes := #[] }, { accessFlags := 18, nameIndex := 17, descriptorIndex := 18, attributes := #[] }, { accessFlags := 2, nameIndex := 21, descriptorIndex := 22, attributes := #[] }, { accessFlags := 2, nameIndex := 25, descriptorIndex := 26, attributes := #[] }, { accessFlags := 26, nameIndex := 1116, descriptorIndex := 1117, attributes := #[] }, { accessFlags := 24, nameIndex := 40, descriptorIndex := 26, attributes := #[] }, { accessFlags := 26, nameIndex := 1101, descriptorIndex := 1102, attributes := #[] }, { accessFlags := 26, nameIndex := 1121, descriptorIndex := 1122, attributes := #[] }, { accessFlags := 25, nameIndex := 599, descriptorIndex := 600, attributes := #[] }, { accessFlags := 24, nameIndex := 1125, descriptorIndex := 18, attributes := #[] }, { accessFlags := 24, nameIndex := 1127, descriptorIndex := 18, attributes := #[] }])
  fields := #[{ name := "value", type := (.array .byte), accessFlags := 18, slot := 0, constantValue := 0 }, { name := "coder", type := .byte, accessFlags := 18, slot := 1, constantValue := 0 }, { name := "hash", type := .int, accessFlags := 2, slot := 2, constantValue := 0 }, { name := "hashIsZero", type := .boolean, accessFlags := 2, slot := 3, constantValue := 0 }, { name := "serialVersionUID", type := .long, accessFlags := 26, slot := 0, constantValue := 0 }, { name := "COMPACT_STRINGS", type := .boolean, accessFlags := 24, slot := 1, constantValue := 0 }, { name := "serialPersistentFields", type := (.array (.object "java/io/ObjectStreamField")), accessFlags := 26, slot := 2, constantValue := 0 }, { name := "REPL", type := .char, accessFlags := 26, slot := 3, constantValue := 0 }, { name := "CASE_INSENSITIVE_ORDER", type := (.object "java/util/Comparator"), accessFlags := 25, slot := 4, constantValue := 0 }, { name := "LATIN1", type := .byte, accessFlags := 24, slot := 5, constantValue := 0 }, { name := "UTF16", type := .byte, accessFlags := 24, slot := 6, constantValue := 0 }]
  methods := #[k9m0, k9m1]
  instanceTypes := #[(.array .byte), .byte, .int, .boolean]
  staticTypes := #[.long, .boolean, (.array (.object "java/io/ObjectStreamField")), .char, (.object "java/util/Comparator"), .byte, .byte]
  resolved := Array.replicate 1451 none
  statics := some 0 }

def pool10 : Array CpInfo := pool [(2, .class_ 4), (1, u "java/lang/Object"), (0, u "<init>"), (0, u "()V"), (0, .string 8), (0, u "id"), (0, .methodref 10 11), (0, .class_ 12), (0, .nameAndType 13 14), (0, u "com/example/escarmouche/escarmouche/rulesets/Combatants"), (0, u "requireNotEmpty"), (0, u "(Ljava/lang/String;Ljava/lang/String;)V"), (0, .string 16), (0, u "side"), (14, u "()Z"), (10, .class_ 43), (0, u "java/lang/String"), (35, .methodref 80 81), (0, .class_ 82), (0, .nameAndType 83 84), (0, u "java/util/Objects"), (0, u "requireNonNull"), (0, u "(Ljava/lang/Object;Ljava/lang/String;)Ljava/lang/Object;"), (0, .methodref 42 86), (0, .nameAndType 87 31), (0, u "isEmpty"), (5, u "requireIdAndSide")] 15

def k10m0 : Method := { name := "<init>", desc := "()V", sig := { parameters := [], returnType := none }, accessFlags := 2, code := none }
def k10c1 : Code := { maxStack := 2, maxLocals := 2, code := prog_18_method_2_code, exceptionTable := #[], attributes := #[] }
def k10m1 : Method := { name := "requireIdAndSide", desc := "(Ljava/lang/String;Ljava/lang/String;)V", sig := { parameters := [(.object "java/lang/String"), (.object "java/lang/String")], returnType := none }, accessFlags := 9, code := some k10c1 }
def k10c2 : Code := { maxStack := 7, maxLocals := 2, code := prog_18_method_6_code, exceptionTable := #[], attributes := #[] }
def k10m2 : Method := { name := "requireNotEmpty", desc := "(Ljava/lang/String;Ljava/lang/String;)V", sig := { parameters := [(.object "java/lang/String"), (.object "java/lang/String")], returnType := none }, accessFlags := 10, code := some k10c2 }
/-- com/example/escarmouche/escarmouche/rulesets/Combatants -/
def k10 : Class := { plain "com/example/escarmouche/escarmouche/rulesets/Combatants" (some 0) with
  accessFlags := 49
  interfaces := #[]
  cf := some (fileOf pool10 10 #[] #[{ accessFlags := 2, nameIndex := 5, descriptorIndex := 6, attributes := #[] }, { accessFlags := 9, nameIndex := 93, descriptorIndex := 14, attributes := #[] }, { accessFlags := 10, nameIndex := 13, descriptorIndex := 14, attributes := #[] }] 49 2 #[] #[])
  fields := #[]
  methods := #[k10m0, k10m1, k10m2]
  instanceTypes := #[]
  staticTypes := #[]
  resolved := Array.replicate 109 none
  statics := none }

def pool11 : Array CpInfo := pool [(2, .class_ 4), (1, u "java/lang/Object"), (0, u "<init>"), (0, u "()V"), (35, .class_ 44), (1, u "java/util/Objects"), (0, u "requireNonNull"), (48, u "(Ljava/lang/Object;Ljava/lang/String;)Ljava/lang/Object;")] 89

def k11m0 : Method := { name := "<init>", desc := "()V", sig := { parameters := [], returnType := none }, accessFlags := 2, code := none }
def k11c1 : Code := { maxStack := 3, maxLocals := 2, code := jdk_31_method_11_code, exceptionTable := #[], attributes := #[] }
def k11m1 : Method := { name := "requireNonNull", desc := "(Ljava/lang/Object;Ljava/lang/String;)Ljava/lang/Object;", sig := { parameters := [(.object "java/lang/Object"), (.object "java/lang/String")], returnType := some (.object "java/lang/Object") }, accessFlags := 9, code := some k11c1 }
/-- java/util/Objects -/
def k11 : Class := { plain "java/util/Objects" (some 0) with
  accessFlags := 49
  interfaces := #[]
  cf := some (fileOf pool11 42 #[] #[{ accessFlags := 2, nameIndex := 5, descriptorIndex := 6, attributes := #[] }, { accessFlags := 9, nameIndex := 45, descriptorIndex := 94, attributes := #[] }] 49 2 #[] #[])
  fields := #[]
  methods := #[k11m0, k11m1]
  instanceTypes := #[]
  staticTypes := #[]
  resolved := Array.replicate 184 none
  statics := none }

def pool12 : Array CpInfo := pool [(2, .class_ 4), (1, u "java/lang/Object"), (0, u "<init>"), (0, u "()V"), (17, .class_ 25), (0, u "com/example/escarmouche/escarmouche/rulesets/Bounds"), (2, u "requireWithin"), (0, u "(Ljava/lang/String;III)V")] 5

def k12m0 : Method := { name := "<init>", desc := "()V", sig := { parameters := [], returnType := none }, accessFlags := 2, code := none }
def k12c1 : Code := { maxStack := 7, maxLocals := 4, code := prog_17_method_2_code, exceptionTable := #[], attributes := #[] }
def k12m1 : Method := { name := "requireWithin", desc := "(Ljava/lang/String;III)V", sig := { parameters := [(.object "java/lang/String"), .int, .int, .int], returnType := none }, accessFlags := 9, code := some k12c1 }
/-- com/example/escarmouche/escarmouche/rulesets/Bounds -/
def k12 : Class := { plain "com/example/escarmouche/escarmouche/rulesets/Bounds" (some 0) with
  accessFlags := 49
  interfaces := #[]
  cf := some (fileOf pool12 24 #[] #[{ accessFlags := 2, nameIndex := 5, descriptorIndex := 6, attributes := #[] }, { accessFlags := 9, nameIndex := 28, descriptorIndex := 29, attributes := #[] }] 49 2 #[] #[])
  fields := #[]
  methods := #[k12m0, k12m1]
  instanceTypes := #[]
  staticTypes := #[]
  resolved := Array.replicate 35 none
  statics := none }

def pool13 : Array CpInfo := pool [(4, .class_ 6), (1, u "java/lang/Object"), (0, u "<init>"), (0, u "()V"), (5, .class_ 16), (1, u "java/lang/StringLatin1"), (104, u "$assertionsDisabled"), (0, u "Z"), (98, .class_ 223), (1, u "java/lang/StringLatin1$LinesSpliterator"), (166, .class_ 391), (0, u "java/lang/StringLatin1$CharsSpliterator")] 3

def k13m0 : Method := { name := "<init>", desc := "()V", sig := { parameters := [], returnType := none }, accessFlags := 0, code := none }
/-- java/lang/StringLatin1 -/
def k13 : Class := { plain "java/lang/StringLatin1" (some 0) with
  accessFlags := 48
  interfaces := #[]
  cf := some (fileOf pool13 14 #[.nestMembers #[390, 221]] #[{ accessFlags := 0, nameIndex := 7, descriptorIndex := 8, attributes := #[] }] 48 4 #[] #[{ accessFlags := 4120, nameIndex := 121, descriptorIndex := 122, attributes := #[] }])
  fields := #[{ name := "$assertionsDisabled", type := .boolean, accessFlags := 4120, slot := 0, constantValue := 0 }]
  methods := #[k13m0]
  instanceTypes := #[]
  staticTypes := #[.boolean]
  resolved := Array.replicate 395 none
  statics := none }

def pool14 : Array CpInfo := pool [(2, .class_ 4), (1, u "java/lang/Object"), (0, u "<init>"), (0, u "()V"), (17, .class_ 26), (1, u "jdk/internal/util/Preconditions"), (28, .class_ 56), (0, u "jdk/internal/util/Preconditions$4"), (57, .class_ 115), (0, u "jdk/internal/util/Preconditions$1"), (7, u "SIOOBE_FORMATTER"), (0, u "Ljava/util/function/BiFunction;"), (0, .class_ 126), (0, u "jdk/internal/util/Preconditions$2"), (3, u "AIOOBE_FORMATTER"), (0, .class_ 132), (0, u "jdk/internal/util/Preconditions$3"), (3, u "IOOBE_FORMATTER")] 57

def k14m0 : Method := { name := "<init>", desc := "()V", sig := { parameters := [], returnType := none }, accessFlags := 1, code := none }
/-- jdk/internal/util/Preconditions -/
def k14 : Class := { plain "jdk/internal/util/Preconditions" (some 0) with
  accessFlags := 33
  interfaces := #[]
  cf := some (fileOf pool14 24 #[.nestMembers #[55, 131, 125, 114]] #[{ accessFlags := 1, nameIndex := 5, descriptorIndex := 6, attributes := #[] }] 33 2 #[] #[{ accessFlags := 25, nameIndex := 123, descriptorIndex := 124, attributes := #[] }, { accessFlags := 25, nameIndex := 130, descriptorIndex := 124, attributes := #[] }, { accessFlags := 25, nameIndex := 136, descriptorIndex := 124, attributes := #[] }])
  fields := #[{ name := "SIOOBE_FORMATTER", type := (.object "java/util/function/BiFunction"), accessFlags := 25, slot := 0, constantValue := 0 }, { name := "AIOOBE_FORMATTER", type := (.object "java/util/function/BiFunction"), accessFlags := 25, slot := 1, constantValue := 0 }, { name := "IOOBE_FORMATTER", type := (.object "java/util/function/BiFunction"), accessFlags := 25, slot := 2, constantValue := 0 }]
  methods := #[k14m0]
  instanceTypes := #[]
  staticTypes := #[(.object "java/util/function/BiFunction"), (.object "java/util/function/BiFunction"), (.object "java/util/function/BiFunction")]
  resolved := Array.replicate 194 none
  statics := some 1 }

def pool15 : Array CpInfo := pool [(9, u "<init>"), (6, .class_ 18), (1, u "java/lang/Object"), (0, u "()V"), (1, .class_ 23), (1, u "jdk/internal/util/ArraysSupport"), (0, u "LOG2_ARRAY_LONG_INDEX_SCALE"), (0, u "I"), (2, u "U"), (0, u "Ljdk/internal/misc/Unsafe;"), (8, u "BIG_ENDIAN"), (0, u "Z"), (8, u "LOG2_BYTE_BIT_SIZE"), (4, u "LOG2_ARRAY_INT_INDEX_SCALE"), (54, u "JLA"), (0, u "Ljdk/internal/access/JavaLangAccess;"), (11, u "LOG2_ARRAY_BOOLEAN_INDEX_SCALE"), (9, u "LOG2_ARRAY_BYTE_INDEX_SCALE"), (5, u "LOG2_ARRAY_CHAR_INDEX_SCALE"), (5, u "LOG2_ARRAY_SHORT_INDEX_SCALE"), (18, u "LOG2_ARRAY_FLOAT_INDEX_SCALE"), (24, u "LOG2_ARRAY_DOUBLE_INDEX_SCALE"), (89, u "T_BOOLEAN"), (2, u "T_CHAR"), (1, u "T_FLOAT"), (1, u "T_DOUBLE"), (1, u "T_BYTE"), (1, u "T_SHORT"), (1, u "T_INT"), (1, u "T_LONG"), (1, u "SOFT_MAX_ARRAY_LENGTH")] 83

def k15m0 : Method := { name := "<init>", desc := "()V", sig := { parameters := [], returnType := none }, accessFlags := 2, code := none }
/-- jdk/internal/util/ArraysSupport -/
def k15 : Class := { plain "jdk/internal/util/ArraysSupport" (some 0) with
  accessFlags := 33
  interfaces := #[]
  cf := some (fileOf pool15 21 #[] #[{ accessFlags := 2, nameIndex := 9, descriptorIndex := 19, attributes := #[] }] 33 16 #[] #[{ accessFlags := 24, nameIndex := 28, descriptorIndex := 29, attributes := #[] }, { accessFlags := 26, nameIndex := 38, descriptorIndex := 39, attributes := #[] }, { accessFlags := 25, nameIndex := 121, descriptorIndex := 25, attributes := #[] }, { accessFlags := 25, nameIndex := 131, descriptorIndex := 25, attributes := #[] }, { accessFlags := 25, nameIndex := 137, descriptorIndex := 25, attributes := #[] }, { accessFlags := 25, nameIndex := 143, descriptorIndex := 25, attributes := #[] }, { accessFlags := 25, nameIndex := 53, descriptorIndex := 25, attributes := #[] }, { accessFlags := 25, nameIndex := 24, descriptorIndex := 25, attributes := #[] }, { accessFlags := 25, nameIndex := 162, descriptorIndex := 25, attributes := #[] }, { accessFlags := 25, nameIndex := 187, descriptorIndex := 25, attributes := #[] }, { accessFlags := 26, nameIndex := 48, descriptorIndex := 25, attributes := #[] }, { accessFlags := 25, nameIndex := 277, descriptorIndex := 25, attributes := #[] }, { accessFlags := 25, nameIndex := 280, descriptorIndex := 25, attributes := #[] }, { accessFlags := 25, nameIndex := 282, descriptorIndex := 25, attributes := #[] }, { accessFlags := 25, nameIndex := 284, descriptorIndex := 25, attributes := #[] }, { accessFlags := 25, nameIndex := 286, descriptorIndex := 25, attributes := #[] }, { accessFlags := 25, nameIndex := 288, descriptorIndex := 25, attributes := #[] }, { accessFlags := 25, nameIndex := 290, descriptorIndex := 25, attributes := #[] }, { accessFlags := 25, nameIndex := 292, descriptorIndex := 25, attributes := #[] }, { accessFlags := 26, nameIndex := 108, descriptorIndex := 109, attributes := #[] }, { accessFlags := 25, nameIndex := 294, descriptorIndex := 25, attributes := #[] }])
  fields := #[{ name := "U", type := (.object "jdk/internal/misc/Unsafe"), accessFlags := 24, slot := 0, constantValue := 0 }, { name := "BIG_ENDIAN", type := .boolean, accessFlags := 26, slot := 1, constantValue := 0 }, { name := "LOG2_ARRAY_BOOLEAN_INDEX_SCALE", type := .int, accessFlags := 25, slot := 2, constantValue := 0 }, { name := "LOG2_ARRAY_BYTE_INDEX_SCALE", type := .int, accessFlags := 25, slot := 3, constantValue := 0 }, { name := "LOG2_ARRAY_CHAR_INDEX_SCALE", type := .int, accessFlags := 25, slot := 4, constantValue := 0 }, { name := "LOG2_ARRAY_SHORT_INDEX_SCALE", type := .int, accessFlags := 25, slot := 5, constantValue := 0 }, { name := "LOG2_ARRAY_INT_INDEX_SCALE", type := .int, accessFlags := 25, slot := 6, constantValue := 0 }, { name := "LOG2_ARRAY_LONG_INDEX_SCALE", type := .int, accessFlags := 25, slot := 7, constantValue := 0 }, { name := "LOG2_ARRAY_FLOAT_INDEX_SCALE", type := .int, accessFlags := 25, slot := 8, constantValue := 0 }, { name := "LOG2_ARRAY_DOUBLE_INDEX_SCALE", type := .int, accessFlags := 25, slot := 9, constantValue := 0 }, { name := "LOG2_BYTE_BIT_SIZE", type := .int, accessFlags := 26, slot := 10, constantValue := 0 }, { name := "T_BOOLEAN", type := .int, accessFlags := 25, slot := 11, constantValue := 0 }, { name := "T_CHAR", type := .int, accessFlags := 25, slot := 12, constantValue := 0 }, { name := "T_FLOAT", type := .int, accessFlags := 25, slot := 13, constantValue := 0 }, { name := "T_DOUBLE", type := .int, accessFlags := 25, slot := 14, constantValue := 0 }, { name := "T_BYTE", type := .int, accessFlags := 25, slot := 15, constantValue := 0 }, { name := "T_SHORT", type := .int, accessFlags := 25, slot := 16, constantValue := 0 }, { name := "T_INT", type := .int, accessFlags := 25, slot := 17, constantValue := 0 }, { name := "T_LONG", type := .int, accessFlags := 25, slot := 18, constantValue := 0 }, { name := "JLA", type := (.object "jdk/internal/access/JavaLangAccess"), accessFlags := 26, slot := 19, constantValue := 0 }, { name := "SOFT_MAX_ARRAY_LENGTH", type := .int, accessFlags := 25, slot := 20, constantValue := 0 }]
  methods := #[k15m0]
  instanceTypes := #[]
  staticTypes := #[(.object "jdk/internal/misc/Unsafe"), .boolean, .int, .int, .int, .int, .int, .int, .int, .int, .int, .int, .int, .int, .int, .int, .int, .int, .int, (.object "jdk/internal/access/JavaLangAccess"), .int]
  resolved := Array.replicate 378 none
  statics := none }

def pool16 : Array CpInfo := pool [(1, u "java/lang/Cloneable"), (0, .class_ 1), (0, u "java/lang/Object"), (0, .class_ 3)] 3

/-- java/lang/Cloneable -/
def k16 : Class := { plain "java/lang/Cloneable" (some 0) with
  accessFlags := 1537
  interfaces := #[]
  cf := some (fileOf pool16 2 #[] #[] 1537 4 #[] #[])
  fields := #[]
  methods := #[]
  instanceTypes := #[]
  staticTypes := #[]
  resolved := Array.replicate 8 none
  statics := none }

/-- the primitive byte -/
def k17 : Class := { plain "byte" none with kind := .primitive 'B', accessFlags := 0x411 }
/-- [B -/
def k18 : Class := { plain "[B" (some 0) with kind := .array 17 .byte, interfaces := #[16, 4], accessFlags := 1041 }

/-- the primitive int -/
def k19 : Class := { plain "int" none with kind := .primitive 'I', accessFlags := 0x411 }
/-- [I -/
def k20 : Class := { plain "[I" (some 0) with kind := .array 19 .int, interfaces := #[16, 4], accessFlags := 1041 }

def heap : Heap := #[{ cls := 9, slots := #[.long 0, .int 1, .null, .int 0, .null, .int 0, .int 0], vm := .statics 9 },
  { cls := 14, slots := #[.null, .null, .null], vm := .statics 14 }]
def classes : Array Class := #[k0, k1, k2, k3, k4, k5, k6, k7, k8, k9, k10, k11, k12, k13, k14, k15, k16, k17, k18, k19, k20]
def interned : List (Array UInt16 × Addr) := []
def slotsUsed : Nat := 10
def theMethod : MethodId := ⟨1, 1⟩
def args0 : Array Value := #[.int 7, .int 3, .int 5, .int 9]
def aboutOver (below : List Frame) : State where
  vm := { classes := classes, interned := interned.toArray }
  heap := heap
  slotsUsed := slotsUsed
  threads := #[{ frames := .invoking theMethod args0 :: below }]
def below0 : List Frame := [.native { method := ⟨0, 0⟩, args := #[] }]
def about1 : State := aboutOver below0
def p0 : Program := .bare "" "" ""
def e0 : Env := launch0.env 0 0 0
theorem w_frames : about1.frames = Frame.invoking theMethod args0 :: below0 := rfl
set_option maxRecDepth 65536 in
theorem w_args : argsFit about1.vm theMethod args0 = true := by decide +kernel
set_option maxRecDepth 65536 in
theorem w_heap : heapFits about1 = true := by decide +kernel
set_option maxRecDepth 65536 in
theorem w_runnable : about1.curStatus? = some .runnable := by decide +kernel
set_option maxRecDepth 65536 in
theorem w_alone : about1.alone = true := by decide +kernel
set_option maxRecDepth 65536 in
theorem w_named : about1.methodNamed? x = some theMethod := by decide +kernel
set_option maxRecDepth 65536 in
theorem w_hears : about1.hears theMethod below0 = true := by decide +kernel
set_option maxRecDepth 65536 in
theorem w_ripe : about1.ripe theMethod args0 below0 = true := by decide +kernel
theorem w_running : about1.status = .running := rfl
set_option maxRecDepth 65536 in
theorem w_room : about1.hasRoom e0.platform room_1 = true :=
  launch0.hasRoom_least _ room_1 (by decide +kernel) (by decide +kernel) (by decide +kernel) (by decide +kernel) (by decide +kernel) (by decide +kernel)
theorem allAtoms_all (ts : List Jvm.Cond) (a : Array Jvm.Value) (st : Jvm.State) : (allAtoms ts).before a st = ts.all (fun c => c.before a st) := by
  induction ts with
  | nil => rfl
  | cons c t ih =>
    show (Jvm.Cond.and c (allAtoms t)).before a st = _
    rw [Jvm.Cond.before_and, ih, List.all_cons]
def words1 : List Jvm.Cond := Jvm.Cond.code x code maxLocals ret :: tables_1
/-- a 'code' word, met by the world's own term for the bytes: nothing is compared byte by byte -/
theorem code_word {y : MethodName} {bytes : ByteArray} {mx : Nat} {rt : Option FieldType} {a : Array Value} {s : State} {m : MethodId} {meth : Method} {c : Code} (h1 : s.methodNamed? y = some m) (h2 : s.vm.method? m = some meth) (h3 : meth.code = some c) (h4 : c.code = bytes)
    (h5 : (c.maxLocals == mx && c.exceptionTable.isEmpty && decide (c.maxStack ≤ mostOperands) && decide (meth.sig.returnType = rt) && !meth.locks && decide (parseMethodDescriptor y.desc = some meth.sig)) = true) : (Jvm.Cond.code y bytes mx rt).before a s = true := by
  simp only [Bool.and_eq_true, beq_iff_eq, Bool.not_eq_true', decide_eq_true_eq] at h5
  obtain ⟨⟨⟨⟨⟨g1, g2⟩, g3⟩, g4⟩, g5⟩, g6⟩ := h5
  simp [Cond.before, Cond.holds, Cond.value, h1, h2, h3, h4, g1, g2, g3, g4, g5, g6]
def isCode : Jvm.Cond → Bool
  | .code _ _ _ _ => true
  | _ => false
theorem all_split {L : List Jvm.Cond} {P : Jvm.Cond → Bool} (h1 : L.all (fun c => isCode c || P c) = true) (h2 : ∀ c ∈ L.filter isCode, P c = true) : L.all P = true := by
  refine List.all_eq_true.mpr fun c hc => ?_
  have h := List.all_eq_true.mp h1 c hc
  rcases Bool.eq_false_or_eq_true (isCode c) with hi | hi
  · exact h2 c (List.mem_filter.mpr ⟨hc, hi⟩)
  · simpa [hi] using h
set_option maxRecDepth 65536 in
theorem w_c0 : (Jvm.Cond.code x code maxLocals ret).before args0 about1 = true := code_word (m := ⟨1, 1⟩) (meth := k1m1) (c := k1c1) (by decide +kernel) rfl rfl rfl (by decide +kernel)
set_option maxRecDepth 65536 in
theorem w_c1 : (Jvm.Cond.code ({ cls := "com/example/escarmouche/escarmouche/rulesets/cyberpunk2020/Combatant", name := "<init>", desc := "(Ljava/lang/String;Ljava/lang/String;IIII)V" } : Jvm.MethodName) prog_44_method_1_code (7 : Nat) (Option.none : Option Jvm.ClassFile.FieldType)).before args0 about1 = true := code_word (m := ⟨3, 0⟩) (meth := k3m0) (c := k3c0) (by decide +kernel) rfl rfl rfl (by decide +kernel)
set_option maxRecDepth 65536 in
theorem w_c2 : (Jvm.Cond.code ({ cls := "java/lang/Record", name := "<init>", desc := "()V" } : Jvm.MethodName) jdk_30_method_1_code (1 : Nat) (Option.none : Option Jvm.ClassFile.FieldType)).before args0 about1 = true := code_word (m := ⟨2, 0⟩) (meth := k2m0) (c := k2c0) (by decide +kernel) rfl rfl rfl (by decide +kernel)
set_option maxRecDepth 65536 in
theorem w_c3 : (Jvm.Cond.code ({ cls := "java/lang/Object", name := "<init>", desc := "()V" } : Jvm.MethodName) object_method_1_code (1 : Nat) (Option.none : Option Jvm.ClassFile.FieldType)).before args0 about1 = true := code_word (m := ⟨0, 0⟩) (meth := k0m0) (c := k0c0) (by decide +kernel) rfl rfl rfl (by decide +kernel)
set_option maxRecDepth 65536 in
theorem w_c4 : (Jvm.Cond.code ({ cls := "com/example/escarmouche/escarmouche/rulesets/Combatants", name := "requireIdAndSide", desc := "(Ljava/lang/String;Ljava/lang/String;)V" } : Jvm.MethodName) prog_18_method_2_code (2 : Nat) (Option.none : Option Jvm.ClassFile.FieldType)).before args0 about1 = true := code_word (m := ⟨10, 1⟩) (meth := k10m1) (c := k10c1) (by decide +kernel) rfl rfl rfl (by decide +kernel)
set_option maxRecDepth 65536 in
theorem w_c5 : (Jvm.Cond.code ({ cls := "com/example/escarmouche/escarmouche/rulesets/Combatants", name := "requireNotEmpty", desc := "(Ljava/lang/String;Ljava/lang/String;)V" } : Jvm.MethodName) prog_18_method_6_code (2 : Nat) (Option.none : Option Jvm.ClassFile.FieldType)).before args0 about1 = true := code_word (m := ⟨10, 2⟩) (meth := k10m2) (c := k10c2) (by decide +kernel) rfl rfl rfl (by decide +kernel)
set_option maxRecDepth 65536 in
theorem w_c6 : (Jvm.Cond.code ({ cls := "java/util/Objects", name := "requireNonNull", desc := "(Ljava/lang/Object;Ljava/lang/String;)Ljava/lang/Object;" } : Jvm.MethodName) jdk_31_method_11_code (2 : Nat) (Option.some (Jvm.ClassFile.FieldType.object "java/lang/Object"))).before args0 about1 = true := code_word (m := ⟨11, 1⟩) (meth := k11m1) (c := k11c1) (by decide +kernel) rfl rfl rfl (by decide +kernel)
set_option maxRecDepth 65536 in
theorem w_c7 : (Jvm.Cond.code ({ cls := "java/lang/String", name := "isEmpty", desc := "()Z" } : Jvm.MethodName) jdk_42_method_55_code (1 : Nat) (Option.some Jvm.ClassFile.FieldType.boolean)).before args0 about1 = true := code_word (m := ⟨9, 1⟩) (meth := k9m1) (c := k9c1) (by decide +kernel) rfl rfl rfl (by decide +kernel)
set_option maxRecDepth 65536 in
theorem w_c8 : (Jvm.Cond.code ({ cls := "com/example/escarmouche/escarmouche/rulesets/Bounds", name := "requireWithin", desc := "(Ljava/lang/String;III)V" } : Jvm.MethodName) prog_17_method_2_code (4 : Nat) (Option.none : Option Jvm.ClassFile.FieldType)).before args0 about1 = true := code_word (m := ⟨12, 1⟩) (meth := k12m1) (c := k12c1) (by decide +kernel) rfl rfl rfl (by decide +kernel)
set_option maxRecDepth 65536 in
theorem w_c9 : (Jvm.Cond.code ({ cls := "com/example/escarmouche/escarmouche/rulesets/cyberpunk2020/Combatant", name := "initiative", desc := "(I)I" } : Jvm.MethodName) prog_44_method_2_code (2 : Nat) (Option.some Jvm.ClassFile.FieldType.int)).before args0 about1 = true := code_word (m := ⟨3, 1⟩) (meth := k3m1) (c := k3c1) (by decide +kernel) rfl rfl rfl (by decide +kernel)
def codes1 : List Jvm.Cond := [Jvm.Cond.code x code maxLocals ret, Jvm.Cond.code ({ cls := "com/example/escarmouche/escarmouche/rulesets/cyberpunk2020/Combatant", name := "<init>", desc := "(Ljava/lang/String;Ljava/lang/String;IIII)V" } : Jvm.MethodName) prog_44_method_1_code (7 : Nat) (Option.none : Option Jvm.ClassFile.FieldType), Jvm.Cond.code ({ cls := "java/lang/Record", name := "<init>", desc := "()V" } : Jvm.MethodName) jdk_30_method_1_code (1 : Nat) (Option.none : Option Jvm.ClassFile.FieldType), Jvm.Cond.code ({ cls := "java/lang/Object", name := "<init>", desc := "()V" } : Jvm.MethodName) object_method_1_code (1 : Nat) (Option.none : Option Jvm.ClassFile.FieldType), Jvm.Cond.code ({ cls := "com/example/escarmouche/escarmouche/rulesets/Combatants", name := "requireIdAndSide", desc := "(Ljava/lang/String;Ljava/lang/String;)V" } : Jvm.MethodName) prog_18_method_2_code (2 : Nat) (Option.none : Option Jvm.ClassFile.FieldType), Jvm.Cond.code ({ cls := "com/example/escarmouche/escarmouche/rulesets/Combatants", name := "requireNotEmpty", desc := "(Ljava/lang/String;Ljava/lang/String;)V" } : Jvm.MethodName) prog_18_method_6_code (2 : Nat) (Option.none : Option Jvm.ClassFile.FieldType), Jvm.Cond.code ({ cls := "java/util/Objects", name := "requireNonNull", desc := "(Ljava/lang/Object;Ljava/lang/String;)Ljava/lang/Object;" } : Jvm.MethodName) jdk_31_method_11_code (2 : Nat) (Option.some (Jvm.ClassFile.FieldType.object "java/lang/Object")), Jvm.Cond.code ({ cls := "java/lang/String", name := "isEmpty", desc := "()Z" } : Jvm.MethodName) jdk_42_method_55_code (1 : Nat) (Option.some Jvm.ClassFile.FieldType.boolean), Jvm.Cond.code ({ cls := "com/example/escarmouche/escarmouche/rulesets/Bounds", name := "requireWithin", desc := "(Ljava/lang/String;III)V" } : Jvm.MethodName) prog_17_method_2_code (4 : Nat) (Option.none : Option Jvm.ClassFile.FieldType), Jvm.Cond.code ({ cls := "com/example/escarmouche/escarmouche/rulesets/cyberpunk2020/Combatant", name := "initiative", desc := "(I)I" } : Jvm.MethodName) prog_44_method_2_code (2 : Nat) (Option.some Jvm.ClassFile.FieldType.int)]
set_option maxRecDepth 65536 in
theorem codes_eq : words1.filter isCode = codes1 := rfl
theorem w_codes : ∀ c ∈ words1.filter isCode, c.before args0 about1 = true := by
  rw [codes_eq]
  intro c hc
  simp only [codes1, List.mem_cons, List.not_mem_nil, or_false] at hc
  rcases hc with rfl | rfl | rfl | rfl | rfl | rfl | rfl | rfl | rfl | rfl
  · exact w_c0
  · exact w_c1
  · exact w_c2
  · exact w_c3
  · exact w_c4
  · exact w_c5
  · exact w_c6
  · exact w_c7
  · exact w_c8
  · exact w_c9
set_option maxRecDepth 65536 in
theorem w_t1 : (words1.take 24).all (fun c => isCode c || c.before args0 about1) = true := by decide +kernel
set_option maxRecDepth 65536 in
theorem w_t2 : ((words1.drop 24).take 24).all (fun c => isCode c || c.before args0 about1) = true := by decide +kernel
set_option maxRecDepth 65536 in
theorem w_t3 : ((words1.drop 24).drop 24).all (fun c => isCode c || c.before args0 about1) = true := by decide +kernel
theorem w_tables : (allAtoms (Jvm.Cond.code x code maxLocals ret :: tables_1)).before args0 about1 = true := by
  rw [allAtoms_all]
  show words1.all (fun c => c.before args0 about1) = true
  refine all_split ?_ w_codes
  rw [← List.take_append_drop 24 words1, List.all_append, w_t1, ← List.take_append_drop 24 (words1.drop 24), List.all_append, w_t2, w_t3]
  rfl
set_option maxRecDepth 65536 in
theorem w_rest : rest_1_c.before args0 about1 = true := by decide +kernel
set_option maxRecDepth 65536 in
theorem w_case : (Jvm.Cond.and given_1 narrow_1).before args0 about1 = true := by decide +kernel
set_option maxRecDepth 65536 in
theorem w_consts : constsHeld consts_1 about1 := Jvm.Lit.constsHeldB_iff.mp (by decide +kernel)
theorem w_applies : (headSpec (Jvm.Cond.code x code maxLocals ret :: tables_1) room_1).applies x e0.platform about1 = true :=
  (Spec.applies_iff w_frames).mpr ⟨w_running, w_runnable, w_alone, w_named, w_hears, w_ripe, w_room, w_tables⟩
theorem atStart : AtStart classFile x code maxLocals ret World_1 tables_1 room_1 Calls_1 rest_1 Pre_1 launch0 p0 e0 about1 theMethod args0 below0 :=
  ⟨lists_1, trivial, launch0.admits_env _ _ _, launch0.least_env, fairChoices_fair.cas, fairChoices_fair.clock, w_frames, w_args, w_heap, w_applies, ⟨w_consts, trivial⟩, w_rest, w_case⟩
end start1
theorem witness_1 : WitnessClaimed_1 := ⟨start1.p0, start1.e0, start1.about1, start1.theMethod, start1.args0, start1.below0, start1.atStart⟩
end Jvm.Pilot.@@N@@
