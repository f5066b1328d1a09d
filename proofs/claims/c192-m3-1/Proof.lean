import JvmDerived
import JvmDerived.Pilot.@@N@@Statement
import JvmDerived.Pilot.@@N@@Code
set_option linter.unusedVariables false
set_option linter.unusedSimpArgs false
namespace Jvm.Pilot.@@N@@
open Jvm Jvm.ClassFile Sem Op Lib Jvm.Free Jvm.Stand Jvm.LawKit Jvm.RoadKit Bundle Jvm.Pilot.@@N@@.Jvm.D
section Own
/-! comparisons, said of the integers -/
theorem own_ieq {x y : Int32} (h : x = y) : x.toInt = y.toInt := by rw [h]
theorem own_ine {x y : Int32} (h : ¬ (x = y)) : x.toInt ≠ y.toInt := fun q => h (Int32.toInt_inj.mp q)
theorem own_ilt {x y : Int32} (h : x < y) : x.toInt < y.toInt := Int32.lt_iff_toInt_lt.mp h
theorem own_inl {x y : Int32} (h : ¬ (x < y)) : y.toInt ≤ x.toInt := Int.not_lt.mp fun q => h (Int32.lt_iff_toInt_lt.mpr q)
theorem own_ieq_of {x y : Int32} (h : x.toInt = y.toInt) : x = y := Int32.toInt_inj.mp h
theorem own_ine_of {x y : Int32} (h : x.toInt ≠ y.toInt) : ¬ (x = y) := fun q => h (by rw [q])
theorem own_ilt_of {x y : Int32} (h : x.toInt < y.toInt) : x < y := Int32.lt_iff_toInt_lt.mpr h
theorem own_inl_of {x y : Int32} (h : y.toInt ≤ x.toInt) : ¬ (x < y) := fun q => Int.not_lt.mpr h (Int32.lt_iff_toInt_lt.mp q)
theorem own_leq {x y : Int64} (h : x = y) : x.toInt = y.toInt := by rw [h]
theorem own_lne {x y : Int64} (h : ¬ (x = y)) : x.toInt ≠ y.toInt := fun q => h (Int64.toInt_inj.mp q)
theorem own_llt {x y : Int64} (h : x < y) : x.toInt < y.toInt := Int64.lt_iff_toInt_lt.mp h
theorem own_lnl {x y : Int64} (h : ¬ (x < y)) : y.toInt ≤ x.toInt := Int.not_lt.mp fun q => h (Int64.lt_iff_toInt_lt.mpr q)
theorem own_leq_of {x y : Int64} (h : x.toInt = y.toInt) : x = y := Int64.toInt_inj.mp h
theorem own_lne_of {x y : Int64} (h : x.toInt ≠ y.toInt) : ¬ (x = y) := fun q => h (by rw [q])
theorem own_llt_of {x y : Int64} (h : x.toInt < y.toInt) : x < y := Int64.lt_iff_toInt_lt.mpr h
theorem own_lnl_of {x y : Int64} (h : y.toInt ≤ x.toInt) : ¬ (x < y) := fun q => Int.not_lt.mpr h (Int64.lt_iff_toInt_lt.mp q)
variable {p : Program} {l : Launch} {e : Env} {R : Room} {s : State} {m : MethodId} {args : Array Value} {below : List Frame} {meth : Method} {c : Code} {T : State} {locs : List Loc} {cells slots : Nat} {Z : State} {a0 : Array Value} {h : Heap} {Q : Option Value → Heap → List Loc → Prop} {kc ks : Nat} {S S' s0 : State} {h' : Heap}
/-- from S the invocation comes back; Q holds of what it returned, of the heap and of the places written -/
def own_Ends (p : Program) (e : Env) (below : List Frame) (s0 : State) (Q : Option Value → Heap → List Loc → Prop) (kc ks : Nat) (S : State) : Prop :=
  ∃ s₂ o, Steps p.tables e below S s₂ ∧ s₂.status = .running ∧ Ended s₂ below o ∧ ∃ v L, o = .returned v ∧ Q v s₂.heap L ∧ ReturnedEndW s0 o s₂ L kc ks
def own_Sn (s0 s : State) (h : Heap) : Prop := ∃ vm n, s = s0.setVm vm ∧ s0.Since vm n ∧ n ≤ h.size
theorem own_Sn_refl (s : State) (h : Heap) : own_Sn s s h := ⟨s.vm, 0, rfl, (State.WarmedH.refl s).since 0, Nat.zero_le _⟩
theorem own_Sn_le (hN : own_Sn s0 s h) (q : h.size ≤ h'.size) : own_Sn s0 s h' := by
  obtain ⟨vm, n, h1, h2, h3⟩ := hN
  exact ⟨vm, n, h1, h2, Nat.le_trans h3 q⟩
theorem own_up (st : ∀ t, Steps p.tables e below S' t → Steps p.tables e below S t) (k : own_Ends p e below s0 Q kc ks S') : own_Ends p e below s0 Q kc ks S := by
  obtain ⟨t, o, h1, h2⟩ := k
  exact ⟨t, o, st t h1, h2⟩
theorem own_met {y : MethodName} {code : ByteArray} {maxL : Nat} {ret : Option FieldType} {rm : Room} {as' : Array Value} {ws : List Jvm.Cond} {L0 : Array Slot}
    (hpl : plainFor y = true) (hef : ∀ m, entryFrame m as' maxL = mkF m 0 L0 [])
    (body : ∀ (p : Program) (e : Env) (s : State) (m : MethodId) (below : List Frame) (meth : Method) (c : Code) (T : State), p.tables.exec = Jvm.exec → c.code = code → c.maxLocals = maxL → s.vm.findClass y.cls = some m.cls → meth.name = y.name → meth.sig.returnType = ret → meth.locks = false → Z.Warmed39 s.vm → T.heap = h → own_Sn s s h → Stand p l e rm s m as' below meth c T [] 0 0 → own_Ends p e below s Q rm.cells rm.slots (T.setTop (mkF m 0 L0 []))) :
    MetFree l y (head1 (Jvm.Cond.code y code maxL ret :: ws) rm) (fun a U => a = as' ∧ Z.Warmed39 U.vm ∧ U.heap = h) (fun _ _ _ _ _ => True) (fun _ U o U' => ∃ v L, o = .returned v ∧ Q v U'.heap L ∧ ReturnedEndW U o U' L rm.cells rm.slots) := by
  refine MetFree.of_bodySF hpl hisR ?_
  intro p e s m args below meth c s₁ Bd hml hP hK
  obtain ⟨rfl, hZ, hh⟩ := hP
  rw [hef m]
  exact body p e s m below meth c s₁ Bd.exec Bd.bytes hml (findClass_of_methodNamed Bd.named) (name_of_methodNamed Bd.named Bd.method).1 Bd.returns (BodyLoose.notSynchronized Bd) hZ (by rw [← hh, Bd.state]; rfl) (own_Sn_refl _ _) (Stand.of_body Bd)
theorem own_metI {y : MethodName} {code : ByteArray} {maxL : Nat} {ret : Option FieldType} {rm : Room} {as' : Array Value} {ws : List Jvm.Cond} {L0 : Array Slot}
    (hpl : plainFor y = true) (hef : ∀ m, entryFrame m as' maxL = mkF m 0 L0 [])
    (body : ∀ (p : Program) (e : Env) (s : State) (m : MethodId) (below : List Frame) (meth : Method) (c : Code) (T : State), p.tables.exec = Jvm.exec → c.code = code → c.maxLocals = maxL → s.vm.findClass y.cls = some m.cls → meth.name = y.name → meth.sig.returnType = ret → meth.locks = false → Z.Warmed39 s.vm → T.heap = h → s.heap = h → IB Z s.vm [] → own_Sn s s h → Stand p l e rm s m as' below meth c T [] 0 0 → own_Ends p e below s Q rm.cells rm.slots (T.setTop (mkF m 0 L0 []))) :
    MetFree l y (head1 (Jvm.Cond.code y code maxL ret :: ws) rm) (fun a U => a = as' ∧ Z.Warmed39 U.vm ∧ U.heap = h ∧ IB Z U.vm []) (fun _ _ _ _ _ => True) (fun _ U o U' => ∃ v L, o = .returned v ∧ Q v U'.heap L ∧ ReturnedEndW U o U' L rm.cells rm.slots) := by
  refine MetFree.of_bodySF hpl hisR ?_
  intro p e s m args below meth c s₁ Bd hml hP hK
  obtain ⟨rfl, hZ, hh, hI⟩ := hP
  rw [hef m]
  exact body p e s m below meth c s₁ Bd.exec Bd.bytes hml (findClass_of_methodNamed Bd.named) (name_of_methodNamed Bd.named Bd.method).1 Bd.returns (BodyLoose.notSynchronized Bd) hZ (by rw [← hh, Bd.state]; rfl) hh hI (own_Sn_refl _ _) (Stand.of_body Bd)
/-! returns -/
theorem own_iret (X : Stand p l e R s m args below meth c T locs cells slots) (hx : p.tables.exec = Jvm.exec) {pc : Nat} {Ls : Array Slot} {z : Int32} {rest : List Value} (hret : meth.sig.returnType = some .int) (hd : decode c.code pc = .ok (.ireturn, 1)) {fs : List Frame}
    (hl : ∀ (f : JFrame) (acts : List Action), f.method = m → f.locked = none → f.entered = [] → (doReturn e (T.setTop f) acts (some (.int z))).1 = T.setFrames fs) : Steps p.tables e below (T.setTop (mkF m pc Ls (.int z :: rest))) (T.setFrames fs) :=
  retOut X hx hret rfl (Or.inl ⟨rfl, Or.inl rfl, _, rfl⟩) hd hl
theorem own_retI (X : Stand p l e R s m args below meth c T locs cells slots) (hx : p.tables.exec = Jvm.exec) (hlk : meth.locks = false) (hret : meth.sig.returnType = some .int) {pc : Nat} {Ls : Array Slot} {z : Int32} {rest : List Value} (hd : decode c.code pc = .ok (.ireturn, 1)) (hN : own_Sn s0 s h) (eT : T.heap = h) (hc : cells ≤ kc) (hs : slots ≤ ks) (hq : Q (some (.int z)) T.heap locs) :
    own_Ends p e below s0 Q kc ks (T.setTop (mkF m pc Ls (.int z :: rest))) := by
  obtain ⟨vm0, n0, rfl, hS, hnn⟩ := hN
  obtain ⟨fs, hr, hrun, hended, hE1, hE2, hE3, hE4⟩ := X.leaveW hS (by rw [eT]; exact hnn) (v := some (.int z)) (fun q => by rw [hret] at q; cases q) hlk
  exact ⟨_, _, own_iret X hx hret hd hr, hrun, hended, _, _, rfl, hq, ⟨_, rfl⟩, hE2, hE3, hE4.mono hc hs⟩
theorem own_retN (X : Stand p l e R s m args below meth c T locs cells slots) (hx : p.tables.exec = Jvm.exec) (hlk : meth.locks = false) {t : FieldType} (hret : meth.sig.returnType = some t) (ht : t = .boolean ∨ t = .byte ∨ t = .char ∨ t = .short) {pc : Nat} {Ls : Array Slot} {z z' : Int32} {rest : List Value} (hn : nar t z = z') (hd : decode c.code pc = .ok (.ireturn, 1)) (hN : own_Sn s0 s h) (eT : T.heap = h) (hc : cells ≤ kc) (hs : slots ≤ ks) (hq : Q (some (.int z')) T.heap locs) :
    own_Ends p e below s0 Q kc ks (T.setTop (mkF m pc Ls (.int z :: rest))) := by
  subst hn
  obtain ⟨vm0, n0, rfl, hS, hnn⟩ := hN
  obtain ⟨fs, hr, hrun, hended, hE1, hE2, hE3, hE4⟩ := X.leaveW hS (by rw [eT]; exact hnn) (v := some (.int (nar t z))) (fun q => by rw [hret] at q; cases q) hlk
  exact ⟨_, _, retN X hx hret ht hd hr, hrun, hended, _, _, rfl, hq, ⟨_, rfl⟩, hE2, hE3, hE4.mono hc hs⟩
theorem own_retL (X : Stand p l e R s m args below meth c T locs cells slots) (hx : p.tables.exec = Jvm.exec) (hlk : meth.locks = false) (hret : meth.sig.returnType = some .long) {pc : Nat} {Ls : Array Slot} {z : Int64} {rest : List Value} (hd : decode c.code pc = .ok (.lreturn, 1)) (hN : own_Sn s0 s h) (eT : T.heap = h) (hc : cells ≤ kc) (hs : slots ≤ ks) (hq : Q (some (.long z)) T.heap locs) :
    own_Ends p e below s0 Q kc ks (T.setTop (mkF m pc Ls (.long z :: rest))) := by
  obtain ⟨vm0, n0, rfl, hS, hnn⟩ := hN
  obtain ⟨fs, hr, hrun, hended, hE1, hE2, hE3, hE4⟩ := X.leaveW hS (by rw [eT]; exact hnn) (v := some (.long z)) (fun q => by rw [hret] at q; cases q) hlk
  exact ⟨_, _, retOut X hx hret rfl (Or.inr (Or.inl ⟨rfl, rfl, _, rfl⟩)) hd hr, hrun, hended, _, _, rfl, hq, ⟨_, rfl⟩, hE2, hE3, hE4.mono hc hs⟩
theorem own_retA (X : Stand p l e R s m args below meth c T locs cells slots) (hx : p.tables.exec = Jvm.exec) (hlk : meth.locks = false) {t : FieldType} (hret : meth.sig.returnType = some t) (ht : t.isReference = true) {pc : Nat} {Ls : Array Slot} {a : Addr} {rest : List Value} (hn : narrow t (.ref a) = .ref a) (hd : decode c.code pc = .ok (.areturn, 1)) (hN : own_Sn s0 s h) (eT : T.heap = h) (hc : cells ≤ kc) (hs : slots ≤ ks) (hq : Q (some (.ref a)) T.heap locs) :
    own_Ends p e below s0 Q kc ks (T.setTop (mkF m pc Ls (.ref a :: rest))) := by
  obtain ⟨vm0, n0, rfl, hS, hnn⟩ := hN
  obtain ⟨fs, hr, hrun, hended, hE1, hE2, hE3, hE4⟩ := X.leaveW hS (by rw [eT]; exact hnn) (v := some (.ref a)) (fun q => by rw [hret] at q; cases q) hlk
  exact ⟨_, _, retOut X hx hret hn (Or.inr (Or.inr (Or.inr (Or.inr ⟨rfl, ht, rfl⟩)))) hd hr, hrun, hended, _, _, rfl, hq, ⟨_, rfl⟩, hE2, hE3, hE4.mono hc hs⟩
theorem own_retV (X : Stand p l e R s m args below meth c T locs cells slots) (hx : p.tables.exec = Jvm.exec) (hlk : meth.locks = false) (hret : meth.sig.returnType = none) {pc : Nat} {Ls : Array Slot} (hd : decode c.code pc = .ok (.return_, 1)) (hN : own_Sn s0 s h) (eT : T.heap = h) (hc : cells ≤ kc) (hs : slots ≤ ks) (hq : Q none T.heap locs) :
    own_Ends p e below s0 Q kc ks (T.setTop (mkF m pc Ls [])) := by
  obtain ⟨vm0, n0, rfl, hS, hnn⟩ := hN
  obtain ⟨fs, hr, hrun, hended, hE1, hE2, hE3, hE4⟩ := X.leaveW hS (by rw [eT]; exact hnn) (v := none) (fun _ => rfl) hlk
  exact ⟨_, _, X.returnOut hx hret hd hr, hrun, hended, _, _, rfl, hq, ⟨_, rfl⟩, hE2, hE3, hE4.mono hc hs⟩
/-! calls -/
theorem own_callS (X : Stand p l e R s m args below meth c T locs cells slots) (hx : p.tables.exec = Jvm.exec) (hZ : Z.Warmed39 s.vm) {own : String} {index : Nat} {y : MethodName} {bytes : ByteArray} {maxL : Nat} {ret : Option FieldType} {rm : Room} {as' : Array Value} {Qc : Option Value → Heap → List Loc → Prop}
    (hown : s.vm.findClass own = some m.cls) (w1 : (Jvm.Cond.methodLink own index y).before a0 Z = true) (w2 : (Jvm.Cond.static y).before a0 Z = true) (w3 : (Jvm.Cond.initialized y.cls).before a0 Z = true) (w4 : (Jvm.Cond.code y bytes maxL ret).before a0 Z = true)
    (hy : y.cls ≠ "java/lang/invoke/MethodHandle" ∧ y.cls ≠ "java/lang/invoke/VarHandle") (eT : T.heap = h) (hN : own_Sn s0 s h)
    (hM : MetFree l y (head1 [Jvm.Cond.code y bytes maxL ret] rm) (fun a U => a = as' ∧ Z.Warmed39 U.vm ∧ U.heap = h) (fun _ _ _ _ _ => True) (fun _ U o U' => ∃ v L, o = .returned v ∧ Qc v U'.heap L ∧ ReturnedEndW U o U' L rm.cells rm.slots))
    (W : Nat) {g : JFrame} (argsL rest : List Value) (hdg : decode c.code g.pc = .ok (.invokestatic index, 3)) (hlen : ∀ sig, parseMethodDescriptor y.desc = some sig → argsL.length = sig.parameters.length)
    (hf : rm.frames + 1 ≤ R.frames) (hl : W + (maxL + 11) + rm.locals ≤ R.locals) (hc : cells + rm.cells ≤ R.cells) (hs : slots + rm.slots ≤ R.slots)
    (hg : g.method = m) (hsize : g.locals.size = c.maxLocals) (hstack : g.stack = argsL.reverse ++ rest) (hW : 2 * g.monitorRoom + (rest.map fun v => v.category).sum ≤ W) (has : argsL.toArray = as')
    (k : ∀ T' L v s', own_Sn s0 s' T'.heap → s.Warmed39 s'.vm → Z.Warmed39 s'.vm → s'.vm.findClass own = some m.cls → Stand p l e R s' m args below meth c T' (locs ++ L) (cells + rm.cells) (slots + rm.slots) → Qc v T'.heap L → own_Ends p e below s0 Q kc ks (T'.setTop { g with pc := g.pc + 3, stack := v.toList ++ rest })) :
    own_Ends p e below s0 Q kc ks (T.setTop g) := by
  subst has
  obtain ⟨vm0, n0, rfl, hS, hn⟩ := hN
  obtain ⟨v, _, ⟨T', L', c', n'⟩, -, X', h2, hg2, ⟨L, hQ, l1, y1, z1⟩, st⟩ := callSS X hx hown (mvT hZ w1) (mvT hZ w2) (mvT hZ w3) (mvT hZ w4) hy (backOfS (W := W) hM hZ w4 w3 hf hl) hg hsize hlen hstack hW hdg (fun _ _ => ⟨rfl, eT, hc, hs⟩)
  dsimp only [Pt.U, Pt.locs, Pt.cells, Pt.slots] at X' l1 y1 z1 st hQ
  subst l1 y1 z1
  have hk : n0 ≤ T.heap.size := by rw [eT]; exact hn
  obtain ⟨Y, S', Z', O'⟩ := rebS hS hk X' h2 hg2 hZ hown
  exact own_up (fun t q => st.trans q) (k T' L v _ ⟨_, _, rfl, S', Nat.le_refl _⟩ h2.1 Z' O' Y hQ)
theorem own_callI (X : Stand p l e R s m args below meth c T locs cells slots) (hx : p.tables.exec = Jvm.exec) (hZ : Z.Warmed39 s.vm) {own : String} {index : Nat} {y : MethodName} {bytes : ByteArray} {maxL : Nat} {rm : Room} {as' : Array Value} {Qc : Option Value → Heap → List Loc → Prop}
    (hy1 : y.name = "<init>") (hown : s.vm.findClass own = some m.cls) (w1 : (Jvm.Cond.methodLink own index y).before a0 Z = true) (w2 : (Jvm.Cond.instanceMethod y).before a0 Z = true) (w3 : (Jvm.Cond.initialized y.cls).before a0 Z = true) (w4 : (Jvm.Cond.code y bytes maxL none).before a0 Z = true)
    (hy : y.cls ≠ "java/lang/invoke/MethodHandle" ∧ y.cls ≠ "java/lang/invoke/VarHandle") (eT : T.heap = h) (hN : own_Sn s0 s h)
    (hM : MetFree l y (head1 [Jvm.Cond.code y bytes maxL none] rm) (fun a U => a = as' ∧ Z.Warmed39 U.vm ∧ U.heap = h) (fun _ _ _ _ _ => True) (fun _ U o U' => ∃ v L, o = .returned v ∧ Qc v U'.heap L ∧ ReturnedEndW U o U' L rm.cells rm.slots))
    (W : Nat) {g : JFrame} (a : Addr) (argsL rest : List Value) (hdg : decode c.code g.pc = .ok (.invokespecial index, 3)) (hlen : ∀ sig, parseMethodDescriptor y.desc = some sig → argsL.length = sig.parameters.length)
    (hf : rm.frames + 1 ≤ R.frames) (hl : W + (maxL + 11) + rm.locals ≤ R.locals) (hc : cells + rm.cells ≤ R.cells) (hs : slots + rm.slots ≤ R.slots)
    (hg : g.method = m) (hsize : g.locals.size = c.maxLocals) (hstack : g.stack = argsL.reverse ++ .ref a :: rest) (hW : 2 * g.monitorRoom + (rest.map fun v => v.category).sum ≤ W) (has : (.ref a :: argsL).toArray = as')
    (k : ∀ T' L v s', own_Sn s0 s' T'.heap → s.Warmed39 s'.vm → Z.Warmed39 s'.vm → s'.vm.findClass own = some m.cls → Stand p l e R s' m args below meth c T' (locs ++ L) (cells + rm.cells) (slots + rm.slots) → Qc v T'.heap L → own_Ends p e below s0 Q kc ks (T'.setTop { g with pc := g.pc + 3, stack := v.toList ++ rest })) :
    own_Ends p e below s0 Q kc ks (T.setTop g) := by
  subst has
  obtain ⟨vm0, n0, rfl, hS, hn⟩ := hN
  obtain ⟨v, _, ⟨T', L', c', n'⟩, -, X', h2, hg2, ⟨L, hQ, l1, y1, z1⟩, st⟩ := X.specialBackS hx hy1 hown (mvT hZ w1) (mvT hZ w2) (mvT hZ w4) hy (backOfS (W := W) hM hZ w4 w3 hf hl) hg hsize (Steps.refl _) hlen hstack hW hdg (fun _ _ => ⟨rfl, eT, hc, hs⟩)
  dsimp only [Pt.U, Pt.locs, Pt.cells, Pt.slots] at X' l1 y1 z1 st hQ
  subst l1 y1 z1
  have hk : n0 ≤ T.heap.size := by rw [eT]; exact hn
  obtain ⟨Y, S', Z', O'⟩ := rebS hS hk X' h2 hg2 hZ hown
  exact own_up (fun t q => st.trans q) (k T' L v _ ⟨_, _, rfl, S', Nat.le_refl _⟩ h2.1 Z' O' Y hQ)
theorem own_callV (X : Stand p l e R s m args below meth c T locs cells slots) (hx : p.tables.exec = Jvm.exec) (hZ : Z.Warmed39 s.vm) {own C : String} {index : Nat} {y : MethodName} {bytes : ByteArray} {maxL : Nat} {ret : Option FieldType} {rm : Room} {as' : Array Value} {Qc : Option Value → Heap → List Loc → Prop}
    (hown : s.vm.findClass own = some m.cls) (w1 : (Jvm.Cond.methodLink own index y).before a0 Z = true) (w2 : (Jvm.Cond.declares y).before a0 Z = true) (w5 : (Jvm.Cond.selects C y y).before a0 Z = true) (w6 : (Jvm.Cond.instanceMethod y).before a0 Z = true) (w3 : (Jvm.Cond.initialized y.cls).before a0 Z = true) (w4 : (Jvm.Cond.code y bytes maxL ret).before a0 Z = true)
    (hy : y.cls ≠ "java/lang/invoke/MethodHandle" ∧ y.cls ≠ "java/lang/invoke/VarHandle") (eT : T.heap = h) (hN : own_Sn s0 s h)
    (hM : MetFree l y (head1 [Jvm.Cond.code y bytes maxL ret] rm) (fun a U => a = as' ∧ Z.Warmed39 U.vm ∧ U.heap = h) (fun _ _ _ _ _ => True) (fun _ U o U' => ∃ v L, o = .returned v ∧ Qc v U'.heap L ∧ ReturnedEndW U o U' L rm.cells rm.slots))
    (W : Nat) {g : JFrame} {a : Addr} (E : Exa Z h a C) (argsL rest : List Value) (hdg : decode c.code g.pc = .ok (.invokevirtual index, 3)) (hlen : ∀ sig, parseMethodDescriptor y.desc = some sig → argsL.length = sig.parameters.length)
    (hf : rm.frames + 1 ≤ R.frames) (hl : W + (maxL + 11) + rm.locals ≤ R.locals) (hc : cells + rm.cells ≤ R.cells) (hs : slots + rm.slots ≤ R.slots)
    (hg : g.method = m) (hsize : g.locals.size = c.maxLocals) (hstack : g.stack = argsL.reverse ++ .ref a :: rest) (hW : 2 * g.monitorRoom + (rest.map fun v => v.category).sum ≤ W) (has : (.ref a :: argsL).toArray = as')
    (k : ∀ T' L v s', own_Sn s0 s' T'.heap → s.Warmed39 s'.vm → Z.Warmed39 s'.vm → s'.vm.findClass own = some m.cls → Stand p l e R s' m args below meth c T' (locs ++ L) (cells + rm.cells) (slots + rm.slots) → Qc v T'.heap L → own_Ends p e below s0 Q kc ks (T'.setTop { g with pc := g.pc + 3, stack := v.toList ++ rest })) :
    own_Ends p e below s0 Q kc ks (T.setTop g) := by
  subst has
  obtain ⟨vm0, n0, rfl, hS, hn⟩ := hN
  obtain ⟨cq, kq, qa, qb, qc⟩ := isOf hZ eT E
  obtain ⟨v, _, ⟨T', L', c', n'⟩, -, X', h2, hg2, ⟨L, hQ, l1, y1, z1⟩, st⟩ := X.virtualBackS hx hown (mvT hZ w1) (mvT hZ w2) (notFace_of_selects (args := #[]) (mvT hZ w5)) (mvT hZ w5) (mvT hZ w6) hy (backOfS (W := W) hM hZ w4 w3 hf hl) qa qc hg hsize (Steps.refl _) hlen hstack hW hdg (fun _ _ => ⟨rfl, eT, hc, hs⟩)
  dsimp only [Pt.U, Pt.locs, Pt.cells, Pt.slots] at X' l1 y1 z1 st hQ
  subst l1 y1 z1
  have hk : n0 ≤ T.heap.size := by rw [eT]; exact hn
  obtain ⟨Y, S', Z', O'⟩ := rebS hS hk X' h2 hg2 hZ hown
  exact own_up (fun t q => st.trans q) (k T' L v _ ⟨_, _, rfl, S', Nat.le_refl _⟩ h2.1 Z' O' Y hQ)
/-- the link names y in a class that inherits it from 'owner' -/
theorem own_callU (X : Stand p l e R s m args below meth c T locs cells slots) (hx : p.tables.exec = Jvm.exec) (hZ : Z.Warmed39 s.vm) {own C owner : String} {index : Nat} {x y : MethodName} {bytes : ByteArray} {maxL : Nat} {ret : Option FieldType} {rm : Room} {as' : Array Value} {Qc : Option Value → Heap → List Loc → Prop}
    (hown : s.vm.findClass own = some m.cls) (w1 : (Jvm.Cond.methodLink own index x).before a0 Z = true) (w7 : (Jvm.Cond.sameMethod x.cls owner x.name x.desc).before a0 Z = true) (w2 : (Jvm.Cond.declares ⟨owner, x.name, x.desc⟩).before a0 Z = true) (w5 : (Jvm.Cond.selects C x y).before a0 Z = true) (w6 : (Jvm.Cond.instanceMethod y).before a0 Z = true) (w3 : (Jvm.Cond.initialized y.cls).before a0 Z = true) (w4 : (Jvm.Cond.code y bytes maxL ret).before a0 Z = true)
    (hy : owner ≠ "java/lang/invoke/MethodHandle" ∧ owner ≠ "java/lang/invoke/VarHandle") (eT : T.heap = h) (hN : own_Sn s0 s h)
    (hM : MetFree l y (head1 [Jvm.Cond.code y bytes maxL ret] rm) (fun a U => a = as' ∧ Z.Warmed39 U.vm ∧ U.heap = h) (fun _ _ _ _ _ => True) (fun _ U o U' => ∃ v L, o = .returned v ∧ Qc v U'.heap L ∧ ReturnedEndW U o U' L rm.cells rm.slots))
    (W : Nat) {g : JFrame} {a : Addr} (E : Exa Z h a C) (argsL rest : List Value) (hdg : decode c.code g.pc = .ok (.invokevirtual index, 3)) (hlen : ∀ sig, parseMethodDescriptor x.desc = some sig → argsL.length = sig.parameters.length)
    (hf : rm.frames + 1 ≤ R.frames) (hl : W + (maxL + 11) + rm.locals ≤ R.locals) (hc : cells + rm.cells ≤ R.cells) (hs : slots + rm.slots ≤ R.slots)
    (hg : g.method = m) (hsize : g.locals.size = c.maxLocals) (hstack : g.stack = argsL.reverse ++ .ref a :: rest) (hW : 2 * g.monitorRoom + (rest.map fun v => v.category).sum ≤ W) (has : (.ref a :: argsL).toArray = as')
    (k : ∀ T' L v s', own_Sn s0 s' T'.heap → s.Warmed39 s'.vm → Z.Warmed39 s'.vm → s'.vm.findClass own = some m.cls → Stand p l e R s' m args below meth c T' (locs ++ L) (cells + rm.cells) (slots + rm.slots) → Qc v T'.heap L → own_Ends p e below s0 Q kc ks (T'.setTop { g with pc := g.pc + 3, stack := v.toList ++ rest })) :
    own_Ends p e below s0 Q kc ks (T.setTop g) := by
  subst has
  obtain ⟨vm0, n0, rfl, hS, hn⟩ := hN
  obtain ⟨cq, kq, qa, qb, qc⟩ := isOf hZ eT E
  obtain ⟨v, _, ⟨T', L', c', n'⟩, -, X', h2, hg2, ⟨L, hQ, l1, y1, z1⟩, st⟩ := X.virtualBackUpS hx hown (mvT hZ w1) (mvT hZ w7) (mvT hZ w2) hy (mvT hZ w5) (mvT hZ w6) (backOfS (W := W) hM hZ w4 w3 hf hl) qa qc hg hsize (Steps.refl _) hlen hstack hW hdg (fun _ _ => ⟨rfl, eT, hc, hs⟩)
  dsimp only [Pt.U, Pt.locs, Pt.cells, Pt.slots] at X' l1 y1 z1 st hQ
  subst l1 y1 z1
  have hk : n0 ≤ T.heap.size := by rw [eT]; exact hn
  obtain ⟨Y, S', Z', O'⟩ := rebS hS hk X' h2 hg2 hZ hown
  exact own_up (fun t q => st.trans q) (k T' L v _ ⟨_, _, rfl, S', Nat.le_refl _⟩ h2.1 Z' O' Y hQ)
theorem own_init (X : Stand p l e R s m args below meth c T locs cells slots) (hx : p.tables.exec = Jvm.exec) (hZ : Z.Warmed39 s.vm) {own : String} {idx : Nat} (hown : s.vm.findClass own = some m.cls) (w1 : (Jvm.Cond.methodLink own idx Lib.objectInit).before a0 Z = true) (w2 : (Jvm.Cond.instanceMethod Lib.objectInit).before a0 Z = true)
    (w3 : (Jvm.Cond.code Lib.objectInit ⟨#[0xb1]⟩ 1 none).before a0 Z = true) (eT : T.heap = h) (W : Nat) {g g' : JFrame} {a : Addr} {rest : List Value} (hd : decode c.code g.pc = .ok (.invokespecial idx, 3)) (hf : 1 ≤ R.frames) (hl : W + 12 ≤ R.locals)
    (hg : g.method = m) (hsize : g.locals.size = c.maxLocals) (hs : g.stack = .ref a :: rest) (hW : 2 * g.monitorRoom + (rest.map fun v => v.category).sum ≤ W) (hg' : { g with pc := g.pc + 3, stack := rest } = g')
    (k : ∀ T', Stand p l e R s m args below meth c T' locs cells slots → T'.heap = h → own_Ends p e below s0 Q kc ks (T'.setTop g')) : own_Ends p e below s0 Q kc ks (T.setTop g) := by
  subst hg'
  obtain ⟨T', X', e', st⟩ := initO X hx hZ hown w1 w2 w3 eT hg hsize hs hd hf hW hl
  exact own_up st (k T' X' e')
theorem own_ldcs (X : Stand p l e R s m args below meth c T locs cells slots) (hx : p.tables.exec = Jvm.exec) (hZ : Z.Warmed39 s.vm) {own text : String} {index : Nat} (hown : s.vm.findClass own = some m.cls) (w : (Jvm.Cond.stringLink own index text).before a0 Z = true) (wS : ∀ a ∈ Bundle.stringAtoms, a.before a0 Z = true)
    (eT : T.heap = h) (hN : own_Sn s0 s h) (n : Nat) {g : JFrame} (hd : decode c.code g.pc = .ok (.ldc index, 2)) (hn : 4 * text.toList.length ≤ n) (hbig : n ≤ 536870912) (hc : cells + 2 ≤ R.cells) (hl : slots + (n + 4) ≤ R.slots) (hg : g.method = m)
    (k : ∀ a T' h' s', own_Sn s0 s' h' → s.Warmed39 s'.vm → Z.Warmed39 s'.vm → s'.vm.findClass own = some m.cls → Stand p l e R s' m args below meth c T' locs (cells + 2) (slots + (n + 4)) → T'.heap = h' → Ext h h' → own_Ends p e below s0 Q kc ks (T'.setTop { g with pc := g.pc + 2, stack := .ref a :: g.stack })) :
    own_Ends p e below s0 Q kc ks (T.setTop g) := by
  obtain ⟨vm0, n0, rfl, hS, hk⟩ := hN
  obtain ⟨a, T', h', k1, X', e', E, S', hk', Z', O', st⟩ := ldcS (s := s0.setVm vm0) (vm0 := vm0) X hx hZ hown w wS eT ((State.WarmedH.refl (s0.setVm vm0)).since h.size) (Nat.le_refl _) hg hd hn hbig hc hl
  have S2 : (s0.setVm vm0).Since T'.vm h'.size := ⟨S'.1, S'.2.mono hk'⟩
  exact own_up st (k a T' h' _ ⟨_, _, rfl, hS.trans S2 (Nat.le_trans hk E.1), Nat.le_refl _⟩ S'.1 Z' O' X' e' E)
/-! the heap -/
theorem own_new (X : Stand p l e R s m args below meth c T locs cells slots) (hx : p.tables.exec = Jvm.exec) (hZ : Z.Warmed39 s.vm) {own C : String} {index n : Nat} (hown : s.vm.findClass own = some m.cls) (w : (Jvm.Cond.classLink own index C).before a0 Z = true) (wi : (Jvm.Cond.instantiable C n).before a0 Z = true) (wz : (Jvm.Cond.initialized C).before a0 Z = true) (eT : T.heap = h)
    {g : JFrame} (hg : g.method = m) (hd : decode c.code g.pc = .ok (.new index, 3)) (hc : cells + 1 ≤ R.cells) (hl : slots + n ≤ R.slots)
    (k : ∀ T' h' b, b = h.size → Stand p l e R s m args below meth c T' locs (cells + 1) (slots + n) → T'.heap = h' → Ext h h' → Exa Z h' b C → (∀ {O nm d : String} {ty : FieldType}, Laid Z a0 C O nm d → parseFieldDescriptor d = some ty → Fld Z h' b O nm d (defaultValue ty)) → own_Ends p e below s0 Q kc ks (T'.setTop { g with pc := g.pc + 3, stack := .ref b :: g.stack })) : own_Ends p e below s0 Q kc ks (T.setTop g) := by
  obtain ⟨T', h', X', e', E, A, D, -, st⟩ := newO X hx hZ hown w wi wz eT hg hd hc hl
  exact own_up st (k T' h' _ rfl X' e' E A D)
theorem own_get (X : Stand p l e R s m args below meth c T locs cells slots) (hx : p.tables.exec = Jvm.exec) (hZ : Z.Warmed39 s.vm) {own R0 O n d : String} {index : Nat} (hown : s.vm.findClass own = some m.cls) (w : (Jvm.Cond.fieldLink own index R0 n d).before a0 Z = true) (via : Via Z R0 O n d)
    (eT : T.heap = h) {a : Addr} {v : Value} (F : Fld Z h a O n d v) {g g' : JFrame} {rest : List Value} (hd : decode c.code g.pc = .ok (.getfield index, 3)) (hg : g.method = m) (hs : g.stack = .ref a :: rest) (hg' : { g with pc := g.pc + 3, stack := v :: rest } = g')
    (k : ∀ T', Stand p l e R s m args below meth c T' locs cells slots → T'.heap = h → own_Ends p e below s0 Q kc ks (T'.setTop g')) : own_Ends p e below s0 Q kc ks (T.setTop g) := by
  subst hg'
  obtain ⟨T', X', e', st⟩ := getF X hx hZ hown (host := "") (Or.inl w) via eT F hg hs hd
  exact own_up st (k T' X' e')
theorem own_gets (X : Stand p l e R s m args below meth c T locs cells slots) (hx : p.tables.exec = Jvm.exec) (hZ : Z.Warmed39 s.vm) {own R0 O n d : String} {index : Nat} (hown : s.vm.findClass own = some m.cls) (w : (Jvm.Cond.fieldLink own index R0 n d).before a0 Z = true) (via : Via Z R0 O n d)
    (eT : T.heap = h) {v : Value} (F : Sta Z h O n d v) {g g' : JFrame} (hd : decode c.code g.pc = .ok (.getstatic index, 3)) (hg : g.method = m) (hg' : { g with pc := g.pc + 3, stack := v :: g.stack } = g')
    (k : ∀ T', Stand p l e R s m args below meth c T' locs cells slots → T'.heap = h → own_Ends p e below s0 Q kc ks (T'.setTop g')) : own_Ends p e below s0 Q kc ks (T.setTop g) := by
  subst hg'
  obtain ⟨T', X', e', st⟩ := getS2 X hx hZ hown (host := "") (Or.inl w) via eT F hg hd
  exact own_up st (k T' X' e')
theorem own_put (X : Stand p l e R s m args below meth c T locs cells slots) (hx : p.tables.exec = Jvm.exec) (hZ : Z.Warmed39 s.vm) {own R0 O n d C : String} {index kk : Nat} (ty : FieldType) (hown : s.vm.findClass own = some m.cls) (w : (Jvm.Cond.fieldLink own index R0 n d).before a0 Z = true) (via : Via Z R0 O n d)
    (eT : T.heap = h) {a : Addr} {v v' old : Value} (F : Fld Z h a O n d old) (E : Exa Z h a C) (L : (Jvm.Cond.lays C O n d).before a0 Z = true ∨ ((Jvm.Cond.laysFinal C O n d).before a0 Z = true ∧ own = O ∧ meth.name = "<init>")) (wi : (Jvm.Cond.instantiable C kk).before a0 Z = true)
    (hty : parseFieldDescriptor d = some ty) (hn : narrow ty v = v') (hf : fits ty v' = true) {g g' : JFrame} {rest : List Value} (hd : decode c.code g.pc = .ok (.putfield index, 3)) (hg : g.method = m) (hs : g.stack = v :: .ref a :: rest) (hg' : { g with pc := g.pc + 3, stack := rest } = g')
    (k : ∀ T' h', Stand p l e R s m args below meth c T' (locs ++ [⟨a, Jvm.RoadKit.slotOf Z O n d⟩]) cells slots → T'.heap = h' → Wr h h' a (Jvm.RoadKit.slotOf Z O n d) v' → own_Ends p e below s0 Q kc ks (T'.setTop g')) : own_Ends p e below s0 Q kc ks (T.setTop g) := by
  subst hg'
  obtain ⟨T', h', X', e', W, st⟩ := putFN X hx hZ hown w via eT F E L wi hty hn hf hg hs hd
  exact own_up st (k T' h' X' e' W)
theorem own_fr {k : Nat} {L : List Loc} {a : Addr} {sl : Nat} (N : Fr k L) (q : k ≤ a) : Fr k (L ++ [⟨a, sl⟩]) := N.app fun y hy => by cases List.mem_singleton.mp hy; exact q
/-! arrays: the list of the values -/
def own_Al (Z : State) (h : Heap) (a : Addr) (ty : FieldType) (vs : List Value) : Prop := ∃ c : Cell, Arr Z h a c ty ∧ c.slots.toList = vs ∧ vs.length < 2 ^ 31
theorem own_Al_lt {h : Heap} {a : Addr} {ty : FieldType} {vs : List Value} (A : own_Al Z h a ty vs) : a < h.size := by obtain ⟨c, A, -⟩ := A; exact A.lt
theorem own_Al_ext {h h' : Heap} {a : Addr} {ty : FieldType} {vs : List Value} (E : Ext h h') (A : own_Al Z h a ty vs) : own_Al Z h' a ty vs := by obtain ⟨c, A, r⟩ := A; exact ⟨c, A.ext E, r⟩
theorem own_Al_oth {h h' : Heap} {a b : Addr} {sl : Nat} {v : Value} {ty : FieldType} {vs : List Value} (W : Wr h h' b sl v) (A : own_Al Z h a ty vs) (ne : a ≠ b) : own_Al Z h' a ty vs := by obtain ⟨c, A, r⟩ := A; exact ⟨c, A.other W ne, r⟩
theorem own_Al_keep {h h' : Heap} {a : Addr} {ws : List Addr} {ty : FieldType} {vs : List Value} (K : Keep h h' ws) (A : own_Al Z h a ty vs) (ne : a ∉ ws) : own_Al Z h' a ty vs := by obtain ⟨c, A, r⟩ := A; exact ⟨c, ⟨K.2.1 a c A.1 ne, A.2⟩, r⟩
theorem own_nat {j : Int32} {i : Nat} (hj : j.toInt = i) : ¬ j < 0 ∧ j.toNatClampNeg = i := by
  have h0 : ¬ j < 0 := by rw [Int32.lt_iff_toInt_lt, hj]; have : (0 : Int32).toInt = 0 := rfl; omega
  refine ⟨h0, ?_⟩
  have := nat_of h0
  omega
theorem own_newa (X : Stand p l e R s m args below meth c T locs cells slots) (hx : p.tables.exec = Jvm.exec) (hZ : Z.Warmed39 s.vm) {aty : ArrayType} {ty : FieldType} (hty : newarray.typeOf aty = ty) (w : (Jvm.Cond.arrayClass ty).before a0 Z = true) (eT : T.heap = h) {g : JFrame} {z : Int32} (nn : Nat) {rest : List Value} (hd : decode c.code g.pc = .ok (.newarray aty, 2)) (hn : z.toInt = nn) (cap : Nat) (hcap : nn ≤ cap) (hb : cap * 8 ≤ 536870912) (hc : cells + 1 ≤ R.cells) (hl : slots + cap ≤ R.slots)
    (hg : g.method = m) (hs : g.stack = .int z :: rest)
    (k : ∀ T' h' b, b = h.size → Stand p l e R s m args below meth c T' locs (cells + 1) (slots + cap) → T'.heap = h' → Ext h h' → own_Al Z h' b ty (List.replicate nn (defaultValue ty)) → own_Ends p e below s0 Q kc ks (T'.setTop { g with pc := g.pc + 2, stack := .ref b :: rest })) : own_Ends p e below s0 Q kc ks (T.setTop g) := by
  subst hty
  obtain ⟨h0, h1⟩ := own_nat hn
  obtain ⟨T', h', cA, X', e', E, A, st⟩ := newP X hx hZ w eT hg hd hs h0 (cap := cap) (by omega) hb hc hl
  exact own_up st (k T' h' _ rfl X' e' E ⟨_, A, by simp [newA, h1], by simp; omega⟩)
theorem own_in {ty : FieldType} {vs : List Value} {cl : Cell} {j : Int32} {i : Nat} (hv : cl.slots.toList = vs) (hj : j.toInt = i) (hi : i < vs.length) : ¬ (j < 0 ∨ cl.slots.size ≤ j.toNatClampNeg) := by
  obtain ⟨h0, h1⟩ := own_nat hj
  subst hv
  rintro (q | q)
  · exact h0 q
  · rw [h1] at q; simp at hi; omega
theorem own_Al_set {h h' : Heap} {a : Addr} {cl : Cell} {ty : FieldType} {vs : List Value} {j : Int32} {i : Nat} {v : Value} (A : Arr Z h a cl ty) (hv : cl.slots.toList = vs) (hl : vs.length < 2 ^ 31) (hj : j.toInt = i) (W : Wr h h' a j.toNatClampNeg v) : own_Al Z h' a ty (vs.set i v) := by
  obtain ⟨h0, h1⟩ := own_nat hj
  rw [h1] at W
  exact ⟨_, A.same W, by simp [Cell.setSlot, hv], by simpa using hl⟩
theorem own_sti (X : Stand p l e R s m args below meth c T locs cells slots) (hx : p.tables.exec = Jvm.exec) (hZ : Z.Warmed39 s.vm) (eT : T.heap = h) {a : Addr} {vs : List Value} (A : own_Al Z h a .int vs) {j x : Int32} (i : Nat) {g g' : JFrame} {rest : List Value} (hd : decode c.code g.pc = .ok (.iastore, 1)) (hj : j.toInt = i) (hi : i < vs.length) (hg : g.method = m) (hs : g.stack = .int x :: .int j :: .ref a :: rest) (hg' : { g with pc := g.pc + 1, stack := rest } = g')
    (k : ∀ T' h', Stand p l e R s m args below meth c T' (locs ++ [⟨a, j.toNatClampNeg⟩]) cells slots → T'.heap = h' → Wr h h' a j.toNatClampNeg (.int x) → own_Al Z h' a .int (vs.set i (.int x)) → own_Ends p e below s0 Q kc ks (T'.setTop g')) : own_Ends p e below s0 Q kc ks (T.setTop g) := by
  subst hg'
  obtain ⟨cl, A, hv, hl⟩ := A
  obtain ⟨T', h', X', e', W, st⟩ := stI X hx hZ eT A (own_in (ty := .int) hv hj hi) hg hs hd
  exact own_up st (k T' h' X' e' W (own_Al_set A hv hl hj W))
theorem own_stj (X : Stand p l e R s m args below meth c T locs cells slots) (hx : p.tables.exec = Jvm.exec) (hZ : Z.Warmed39 s.vm) (eT : T.heap = h) {a : Addr} {vs : List Value} (A : own_Al Z h a .long vs) {j : Int32} {x : Int64} (i : Nat) {g g' : JFrame} {rest : List Value} (hd : decode c.code g.pc = .ok (.lastore, 1)) (hj : j.toInt = i) (hi : i < vs.length) (hg : g.method = m) (hs : g.stack = .long x :: .int j :: .ref a :: rest) (hg' : { g with pc := g.pc + 1, stack := rest } = g')
    (k : ∀ T' h', Stand p l e R s m args below meth c T' (locs ++ [⟨a, j.toNatClampNeg⟩]) cells slots → T'.heap = h' → Wr h h' a j.toNatClampNeg (.long x) → own_Al Z h' a .long (vs.set i (.long x)) → own_Ends p e below s0 Q kc ks (T'.setTop g')) : own_Ends p e below s0 Q kc ks (T.setTop g) := by
  subst hg'
  obtain ⟨cl, A, hv, hl⟩ := A
  obtain ⟨T', h', X', e', W, st⟩ := stJ X hx hZ eT A (own_in (ty := .long) hv hj hi) hg hs hd
  exact own_up st (k T' h' X' e' W (own_Al_set A hv hl hj W))
theorem own_stb (X : Stand p l e R s m args below meth c T locs cells slots) (hx : p.tables.exec = Jvm.exec) (hZ : Z.Warmed39 s.vm) (eT : T.heap = h) {a : Addr} {vs : List Value} (A : own_Al Z h a .byte vs) {j x : Int32} (i : Nat) {g g' : JFrame} {rest : List Value} (hd : decode c.code g.pc = .ok (.bastore, 1)) (hj : j.toInt = i) (hi : i < vs.length) (hg : g.method = m) (hs : g.stack = .int x :: .int j :: .ref a :: rest) (hg' : { g with pc := g.pc + 1, stack := rest } = g')
    (k : ∀ T' h', Stand p l e R s m args below meth c T' (locs ++ [⟨a, j.toNatClampNeg⟩]) cells slots → T'.heap = h' → Wr h h' a j.toNatClampNeg (.int (nar .byte x)) → own_Al Z h' a .byte (vs.set i (.int (nar .byte x))) → own_Ends p e below s0 Q kc ks (T'.setTop g')) : own_Ends p e below s0 Q kc ks (T.setTop g) := by
  subst hg'
  obtain ⟨cl, A, hv, hl⟩ := A
  obtain ⟨T', h', X', e', W, st⟩ := stB X hx hZ eT A (own_in (ty := .byte) hv hj hi) hg hs hd
  exact own_up st (k T' h' X' e' W (own_Al_set A hv hl hj W))
theorem own_at {vs : List Value} {cl : Cell} {j : Int32} {i : Nat} {v : Value} (hv : cl.slots.toList = vs) (hj : j.toInt = i) (hi : vs[i]? = some v) : cl.slots[j.toNatClampNeg]? = some v := by
  rw [(own_nat hj).2, ← Array.getElem?_toList, hv]; exact hi
theorem own_ldi (X : Stand p l e R s m args below meth c T locs cells slots) (hx : p.tables.exec = Jvm.exec) (hZ : Z.Warmed39 s.vm) (eT : T.heap = h) {a : Addr} {vs : List Value} (A : own_Al Z h a .int vs) {j : Int32} {v : Value} (i : Nat) {g g' : JFrame} {rest : List Value} (hd : decode c.code g.pc = .ok (.iaload, 1)) (hj : j.toInt = i) (hi : vs[i]? = some v) (hg : g.method = m) (hs : g.stack = .int j :: .ref a :: rest) (hg' : { g with pc := g.pc + 1, stack := v :: rest } = g')
    (k : own_Ends p e below s0 Q kc ks (T.setTop g')) : own_Ends p e below s0 Q kc ks (T.setTop g) := by
  subst hg'
  obtain ⟨cl, A, hv, hl⟩ := A
  exact own_up (fun t => X.iaload hx (by rw [eT]; exact A.1) (State.isArrayOf_alike hZ.alike A.2.1) A.2.2 (own_in (ty := .int) hv hj (List.getElem?_eq_some_iff.mp hi).1) (own_at hv hj hi) hg hs hd t) k
theorem own_ldj (X : Stand p l e R s m args below meth c T locs cells slots) (hx : p.tables.exec = Jvm.exec) (hZ : Z.Warmed39 s.vm) (eT : T.heap = h) {a : Addr} {vs : List Value} (A : own_Al Z h a .long vs) {j : Int32} {v : Value} (i : Nat) {g g' : JFrame} {rest : List Value} (hd : decode c.code g.pc = .ok (.laload, 1)) (hj : j.toInt = i) (hi : vs[i]? = some v) (hg : g.method = m) (hs : g.stack = .int j :: .ref a :: rest) (hg' : { g with pc := g.pc + 1, stack := v :: rest } = g')
    (k : own_Ends p e below s0 Q kc ks (T.setTop g')) : own_Ends p e below s0 Q kc ks (T.setTop g) := by
  subst hg'
  obtain ⟨cl, A, hv, hl⟩ := A
  exact own_up (fun t => X.laload hx (by rw [eT]; exact A.1) (State.isArrayOf_alike hZ.alike A.2.1) A.2.2 (own_in (ty := .long) hv hj (List.getElem?_eq_some_iff.mp hi).1) (own_at hv hj hi) hg hs hd t) k
theorem own_ldb (X : Stand p l e R s m args below meth c T locs cells slots) (hx : p.tables.exec = Jvm.exec) (hZ : Z.Warmed39 s.vm) (eT : T.heap = h) {a : Addr} {vs : List Value} (A : own_Al Z h a .byte vs) {j : Int32} {v : Value} (i : Nat) {g g' : JFrame} {rest : List Value} (hd : decode c.code g.pc = .ok (.baload, 1)) (hj : j.toInt = i) (hi : vs[i]? = some v) (hg : g.method = m) (hs : g.stack = .int j :: .ref a :: rest) (hg' : { g with pc := g.pc + 1, stack := v :: rest } = g')
    (k : own_Ends p e below s0 Q kc ks (T.setTop g')) : own_Ends p e below s0 Q kc ks (T.setTop g) := by
  subst hg'
  obtain ⟨cl, A, hv, hl⟩ := A
  exact own_up (fun t => X.baloadBytes hx (by rw [eT]; exact A.1) (State.isArrayOf_alike hZ.alike A.2.1) A.2.2 (own_in (ty := .byte) hv hj (List.getElem?_eq_some_iff.mp hi).1) (own_at hv hj hi) hg hs hd t) k
theorem own_len (X : Stand p l e R s m args below meth c T locs cells slots) (hx : p.tables.exec = Jvm.exec) (hZ : Z.Warmed39 s.vm) (eT : T.heap = h) {a : Addr} {ty : FieldType} {vs : List Value} (A : own_Al Z h a ty vs) {g g' : JFrame} {rest : List Value} (z : Int32) (hd : decode c.code g.pc = .ok (.arraylength, 1)) (hz : z.toInt = vs.length) (hg : g.method = m) (hs : g.stack = .ref a :: rest) (hg' : { g with pc := g.pc + 1, stack := .int z :: rest } = g')
    (k : own_Ends p e below s0 Q kc ks (T.setTop g')) : own_Ends p e below s0 Q kc ks (T.setTop g) := by
  subst hg'
  obtain ⟨cl, A, hv, hl⟩ := A
  have q : cl.slots.size.toInt32 = z := by
    apply Int32.toInt_inj.mp
    have h2 : cl.slots.size = vs.length := by rw [← hv]; simp
    rw [hz, h2, len_toInt hl]
  exact own_up (fun t => X.arraylength hx (by rw [eT]; exact A.1) (State.isArrayOf_alike hZ.alike A.2.1) hg hs hd t) (by rw [q]; exact k)
theorem own_Al_arv {h : Heap} {a : Addr} {k : ClassId} {ty : FieldType} {z : Int32} {vs : List Value} {d : Value} (F : Arv Z h a k ty z vs d) (hl : z.toNatClampNeg = vs.length) : own_Al Z h a ty vs := by
  obtain ⟨cl, A, -, hz, h0, H, -⟩ := F
  have e1 : cl.slots.size = vs.length := hz.trans hl
  refine ⟨cl, A, ?_, ?_⟩
  · apply List.ext_getElem?
    intro i
    by_cases hi : i < cl.slots.size
    · rw [Array.getElem?_toList, H i hi]
      have hi' : i < vs.length := by omega
      simp [List.getD, List.getElem?_eq_getElem hi']
    · rw [Array.getElem?_toList, Array.getElem?_eq_none (by omega), List.getElem?_eq_none (by omega)]
  · rw [← hl]; exact (back32 h0).2
theorem own_ne_al {h : Heap} {a b : Addr} {C : String} {n : Nat} {ty : FieldType} {vs : List Value} (F : Exa Z h a C) (wi : (Jvm.Cond.instantiable C n).before a0 Z = true) (A : own_Al Z h b ty vs) : b ≠ a := by
  obtain ⟨cl, A, -⟩ := A
  exact Ne.symm (ne_arr F wi A)
theorem own_ldcv (X : Stand p l e R s m args below meth c T locs cells slots) (hx : p.tables.exec = Jvm.exec) (hZ : Z.Warmed39 s.vm) {own text : String} {index : Nat} {Ts : List String} (hown : s.vm.findClass own = some m.cls) (w : (Jvm.Cond.stringLink own index text).before a0 Z = true) (wS : ∀ a ∈ Bundle.stringAtoms, a.before a0 Z = true)
    (eT : T.heap = h) (hN : own_Sn s0 s h) (N : Fr s0.heap.size locs) (hkeep : ∀ (b : Addr) (cl : Cell), Z.heap[b]? = some cl → s0.heap[b]? = some cl) (I : IB Z s.vm Ts) (hnot : text ∉ Ts) (hh : Jvm.Lit.constHeld Z own index) (hcw : Jvm.Lit.compactW.before a0 Z = true) (vs : List Value) (z : Int32)
    (ht : (∀ c ∈ text.toList, c.toNat < 256) ∧ text.toList.map (fun c => Value.int (Jvm.Lit.byteI c.toNat.toUInt16)) = vs) (hz : ¬ z < 0) (hl : z.toNatClampNeg = vs.length) (n : Nat) {g : JFrame} (hd : decode c.code g.pc = .ok (.ldc index, 2)) (hn : 4 * text.toList.length ≤ n) (hbig : n ≤ 536870912) (hc : cells + 2 ≤ R.cells) (hl' : slots + (n + 4) ≤ R.slots) (hg : g.method = m)
    (k : ∀ a b T' h' s', own_Sn s0 s' h' → s.Warmed39 s'.vm → Z.Warmed39 s'.vm → s'.vm.findClass own = some m.cls → Stand p l e R s' m args below meth c T' locs (cells + 2) (slots + (n + 4)) → T'.heap = h' → Ext h h' → Exa Z h' a "java/lang/String" → Fld Z h' a "java/lang/String" "value" "[B" (.ref b) → own_Al Z h' b .byte vs → IB Z s'.vm (text :: Ts) → Lit s' own index a → own_Ends p e below s0 Q kc ks (T'.setTop { g with pc := g.pc + 2, stack := .ref a :: g.stack })) :
    own_Ends p e below s0 Q kc ks (T.setTop g) := by
  obtain ⟨vm0, n0, rfl, hS, hk⟩ := hN
  obtain ⟨a, T', h', k1, b, kb, X', e', E, S', hk', Z', O', hE, -, hF, hA, -, -, hI, hL, st⟩ := ldcSVL (s := s0.setVm vm0) (vm0 := vm0) X hx hZ hown w wS eT ((State.WarmedH.refl (s0.setVm vm0)).since h.size) (Nat.le_refl _) N hkeep I hnot hh hcw ht hz hl hg hd hn hbig hc hl'
  have S2 : (s0.setVm vm0).Since T'.vm h'.size := ⟨S'.1, S'.2.mono hk'⟩
  exact own_up st (k a b T' h' _ ⟨_, _, rfl, hS.trans S2 (Nat.le_trans hk E.1), Nat.le_refl _⟩ S'.1 Z' O' X' e' E hE hF (own_Al_arv hA hl) hI hL)
theorem own_ldca (X : Stand p l e R s m args below meth c T locs cells slots) (hx : p.tables.exec = Jvm.exec) (hZ : Z.Warmed39 s.vm) {own text : String} {index : Nat} (hown : s.vm.findClass own = some m.cls) (w : (Jvm.Cond.stringLink own index text).before a0 Z = true) {a : Addr} (L : Lit s own index a)
    {g : JFrame} (hd : decode c.code g.pc = .ok (.ldc index, 2)) (hg : g.method = m) (k : own_Ends p e below s0 Q kc ks (T.setTop { g with pc := g.pc + 2, stack := .ref a :: g.stack })) : own_Ends p e below s0 Q kc ks (T.setTop g) :=
  own_up (ldcAgain (s := s) (vm0 := s.vm) X hx hZ hown w L hg hd) k
end Own
theorem own_sub : ∀ d ∈ Bundle.stringAtoms, d ∈ tables_1 := by
  intro d hd
  simp only [Bundle.stringAtoms, List.mem_cons, List.not_mem_nil, or_false] at hd
  rcases hd with rfl | rfl | rfl | rfl | rfl | rfl | rfl
  · exact List.mem_of_getElem? (i := 20) rfl
  · exact List.mem_of_getElem? (i := 21) rfl
  · exact List.mem_of_getElem? (i := 22) rfl
  · exact List.mem_of_getElem? (i := 23) rfl
  · exact List.mem_of_getElem? (i := 24) rfl
  · exact List.mem_of_getElem? (i := 25) rfl
  · exact List.mem_of_getElem? (i := 26) rfl
theorem own_sg {x v : Int32} (h : v = (((x &&& (2147483647 : Int32)) % (5 : Int32)) + (1 : Int32))) : ¬ (v < (1 : Int32)) ∧ ¬ ((5 : Int32) < v) := by
  have h1 : (x &&& (2147483647 : Int32)).toInt = x.toInt % 2147483648 := c_mask x (2147483647 : Int32) 31 (by decide) (by decide)
  have h2 := (c_irem (x &&& (2147483647 : Int32)) (5 : Int32) 5 rfl).1 (by omega)
  have h3 := c_iadd ((x &&& (2147483647 : Int32)) % (5 : Int32)) (1 : Int32)
  have z1 : (1 : Int32).toInt = 1 := rfl
  have z5 : (5 : Int32).toInt = 5 := rfl
  have r := rng32 (((x &&& (2147483647 : Int32)) % (5 : Int32)) + (1 : Int32))
  rw [← h] at h3 r
  simp only [Int32.lt_iff_toInt_lt]
  omega
theorem own_rl {x v : Int32} (h : v = (((x &&& (2147483647 : Int32)) % (2001 : Int32)) - (1000 : Int32))) : ¬ (v < (-1000 : Int32)) ∧ ¬ ((1000 : Int32) < v) := by
  have h1 : (x &&& (2147483647 : Int32)).toInt = x.toInt % 2147483648 := c_mask x (2147483647 : Int32) 31 (by decide) (by decide)
  have h2 := (c_irem (x &&& (2147483647 : Int32)) (2001 : Int32) 2001 rfl).1 (by omega)
  have h3 := c_isub ((x &&& (2147483647 : Int32)) % (2001 : Int32)) (1000 : Int32)
  have z1 : (1000 : Int32).toInt = 1000 := rfl
  have z2 : (-1000 : Int32).toInt = -1000 := rfl
  have r := rng32 (((x &&& (2147483647 : Int32)) % (2001 : Int32)) - (1000 : Int32))
  rw [← h] at h3 r
  simp only [Int32.lt_iff_toInt_lt]
  omega
theorem own_pd0 : parseMethodDescriptor "(Ljava/lang/String;III)V" = some ⟨[(.object "java/lang/String"), .int, .int, .int], none⟩ := by decide +kernel
theorem own_pd1 : parseMethodDescriptor "()V" = some ⟨[], none⟩ := by decide +kernel
theorem own_pd2 : parseMethodDescriptor "(I)V" = some ⟨[.int], none⟩ := by decide +kernel
theorem own_pd3 : parseMethodDescriptor "(II)V" = some ⟨[.int, .int], none⟩ := by decide +kernel
theorem own_pd4 : parseMethodDescriptor "()Z" = some ⟨[], some .boolean⟩ := by decide +kernel
theorem d1_0 : decode prog_17_method_2_code 0 = .ok (.iload_n 1, 1) := by decide +kernel
theorem d1_1 : decode prog_17_method_2_code 1 = .ok (.iload_n 2, 1) := by decide +kernel
theorem d1_2 : decode prog_17_method_2_code 2 = .ok (.if_icmp .lt 8, 3) := by decide +kernel
theorem d1_5 : decode prog_17_method_2_code 5 = .ok (.iload_n 1, 1) := by decide +kernel
theorem d1_6 : decode prog_17_method_2_code 6 = .ok (.iload_n 3, 1) := by decide +kernel
theorem d1_7 : decode prog_17_method_2_code 7 = .ok (.if_icmp .le 43, 3) := by decide +kernel
theorem d1_50 : decode prog_17_method_2_code 50 = .ok (.return_, 1) := by decide +kernel
def own_R1 : Room := { frames := 0, cells := 0, slots := 0, locals := 0 }
theorem own_ef1 (p0 : Addr) (p1 : Int32) (p2 : Int32) (p3 : Int32) (m : MethodId) : entryFrame m #[(.ref p0), (.int p1), (.int p2), (.int p3)] 4 = mkF m 0 #[.val (.ref p0), .val (.int p1), .val (.int p2), .val (.int p3)] [] := by first | (simp [entryFrame, mkF, argsToLocals, Value.category]; done) | rfl
def own_Q1 (Z : State) (p0 : Addr) (p1 : Int32) (p2 : Int32) (p3 : Int32)  (h0 : Heap) (n0 : Nat) (v : Option Value) (h : Heap) (L : List Loc) : Prop := v = none ∧ Fr n0 L ∧ h = h0
set_option maxRecDepth 65536 in
set_option maxHeartbeats 40000000 in
theorem rm1 (l : Launch) (Z : State) (a0 : Array Value) (hw : ∀ d ∈ tables_1, d.before a0 Z = true) (ws : List Jvm.Cond) (p0 : Addr) (p1 : Int32) (p2 : Int32) (p3 : Int32)  (h0 : Heap) (n0 : Nat) (Z0 : n0 ≤ h0.size) (hya : ¬ (p1 < p2)) (hyb : ¬ (p3 < p1)) :
    MetFree l (⟨"com/example/escarmouche/escarmouche/rulesets/Bounds", "requireWithin", "(Ljava/lang/String;III)V"⟩ : MethodName) (head1 (Jvm.Cond.code (⟨"com/example/escarmouche/escarmouche/rulesets/Bounds", "requireWithin", "(Ljava/lang/String;III)V"⟩ : MethodName) prog_17_method_2_code 4 none :: ws) own_R1) (fun a U => a = #[(.ref p0), (.int p1), (.int p2), (.int p3)] ∧ Z.Warmed39 U.vm ∧ U.heap = h0) (fun _ _ _ _ _ => True) (fun _ U o U' => ∃ v L, o = .returned v ∧ own_Q1 Z p0 p1 p2 p3 h0 n0 v U'.heap L ∧ ReturnedEndW U o U' L own_R1.cells own_R1.slots) := by
  refine own_met (Q := own_Q1 Z p0 p1 p2 p3 h0 n0) (plainFor_of_name (by first | (simp [plainName, overriddenIn]; done) | decide +kernel)) (own_ef1 p0 p1 p2 p3) ?_
  intro p e s m below meth c T0 hx hby hml hown hnm hret hlk hZ e0 hN0 X0
  have N0 := Fr.nil n0
  refine own_up (S' := T0.setTop (mkF m 1 #[.val (.ref p0), .val (.int p1), .val (.int p2), .val (.int p3)] [(.int p1)])) (fun t stp => XS.iloadN X0.here hx rfl (hb hby d1_0) rfl stp) ?_
  refine own_up (S' := T0.setTop (mkF m 2 #[.val (.ref p0), .val (.int p1), .val (.int p2), .val (.int p3)] [(.int p2), (.int p1)])) (fun t stp => XS.iloadN X0.here hx rfl (hb hby d1_1) rfl stp) ?_
  have hc2_1 : ¬ (p1 < p2) := hya
  have ihc2_1 : p2.toInt ≤ p1.toInt := own_inl hc2_1
  refine own_up (S' := T0.setTop (mkF m 5 #[.val (.ref p0), .val (.int p1), .val (.int p2), .val (.int p3)] [])) (fun t stp => XS.icmpNo X0.here hx rfl (hb hby d1_2) rfl (XT.ii_lt_f hc2_1) stp) ?_
  refine own_up (S' := T0.setTop (mkF m 6 #[.val (.ref p0), .val (.int p1), .val (.int p2), .val (.int p3)] [(.int p1)])) (fun t stp => XS.iloadN X0.here hx rfl (hb hby d1_5) rfl stp) ?_
  refine own_up (S' := T0.setTop (mkF m 7 #[.val (.ref p0), .val (.int p1), .val (.int p2), .val (.int p3)] [(.int p3), (.int p1)])) (fun t stp => XS.iloadN X0.here hx rfl (hb hby d1_6) rfl stp) ?_
  have hc7_2 : ¬ (p3 < p1) := hyb
  have ihc7_2 : p1.toInt ≤ p3.toInt := own_inl hc7_2
  refine own_up (S' := T0.setTop (mkF m 50 #[.val (.ref p0), .val (.int p1), .val (.int p2), .val (.int p3)] [])) (fun t stp => XS.icmpYes X0.here hx rfl (pc0 := 7) (pc' := 50) rfl (hb hby d1_7) rfl (XT.ii_le_t hc7_2) (by decide) (by decide) stp) ?_
  refine own_retV X0 hx hlk hret (hb hby d1_50) hN0 e0 (by decide) (by decide) ?_
  show own_Q1 Z p0 p1 p2 p3 h0 n0 _ T0.heap _
  rw [e0]
  exact ⟨rfl, N0, rfl⟩
theorem d2_0 : decode prog_42_method_4_code 0 = .ok (.ldc 28, 2) := by decide +kernel
theorem d2_2 : decode prog_42_method_4_code 2 = .ok (.iload_n 0, 1) := by decide +kernel
theorem d2_3 : decode prog_42_method_4_code 3 = .ok (.iconst 1, 1) := by decide +kernel
theorem d2_4 : decode prog_42_method_4_code 4 = .ok (.iconst 5, 1) := by decide +kernel
theorem d2_5 : decode prog_42_method_4_code 5 = .ok (.invokestatic 30, 3) := by decide +kernel
theorem d2_8 : decode prog_42_method_4_code 8 = .ok (.return_, 1) := by decide +kernel
def own_R2 : Room := { frames := 1, cells := 2, slots := 32, locals := 15 }
theorem own_ef2 (p0 : Int32) (m : MethodId) : entryFrame m #[(.int p0)] 1 = mkF m 0 #[.val (.int p0)] [] := by first | (simp [entryFrame, mkF, argsToLocals, Value.category]; done) | rfl
def own_Q2 (Z : State) (p0 : Int32)  (h0 : Heap) (n0 : Nat) (v : Option Value) (h : Heap) (L : List Loc) : Prop := v = none ∧ Fr n0 L ∧ Keep h0 h []
set_option maxRecDepth 65536 in
set_option maxHeartbeats 40000000 in
theorem rm2 (l : Launch) (Z : State) (a0 : Array Value) (hw : ∀ d ∈ tables_1, d.before a0 Z = true) (ws : List Jvm.Cond) (p0 : Int32)  (h0 : Heap) (n0 : Nat) (Z0 : n0 ≤ h0.size) (hya : ¬ (p0 < (1 : Int32))) (hyb : ¬ ((5 : Int32) < p0)) :
    MetFree l (⟨"com/example/escarmouche/escarmouche/rulesets/corporates/Turn", "requireSegment", "(I)V"⟩ : MethodName) (head1 (Jvm.Cond.code (⟨"com/example/escarmouche/escarmouche/rulesets/corporates/Turn", "requireSegment", "(I)V"⟩ : MethodName) prog_42_method_4_code 1 none :: ws) own_R2) (fun a U => a = #[(.int p0)] ∧ Z.Warmed39 U.vm ∧ U.heap = h0) (fun _ _ _ _ _ => True) (fun _ U o U' => ∃ v L, o = .returned v ∧ own_Q2 Z p0 h0 n0 v U'.heap L ∧ ReturnedEndW U o U' L own_R2.cells own_R2.slots) := by
  refine own_met (Q := own_Q2 Z p0 h0 n0) (plainFor_of_name (by first | (simp [plainName, overriddenIn]; done) | decide +kernel)) (own_ef2 p0) ?_
  intro p e s m below meth c T0 hx hby hml hown hnm hret hlk hZ e0 hN0 X0
  have N0 := Fr.nil n0
  refine own_ldcs X0 hx hZ hown (hw _ (List.mem_of_getElem? (i := 19) rfl)) (fun d hd => hw d (own_sub d hd)) e0 hN0 28 (hb hby d2_0) (by decide) (by decide) (by decide) (by decide) rfl ?_
  intro sg1 T1 h1 s1 hN1 hV1 hZ1 hown1 X1 e1 E1
  have Zn2 := Nat.le_trans Z0 E1.1
  have Kp4 := (Keep.refl h0 []).ext E1
  show own_Ends p e below s (own_Q2 Z p0 h0 n0) own_R2.cells own_R2.slots (T1.setTop (mkF m 2 #[.val (.int p0)] [(.ref sg1)]))
  refine own_up (S' := T1.setTop (mkF m 3 #[.val (.int p0)] [(.int p0), (.ref sg1)])) (fun t stp => XS.iloadN X1.here hx rfl (hb hby d2_2) rfl stp) ?_
  refine own_up (S' := T1.setTop (mkF m 4 #[.val (.int p0)] [(.int (1 : Int32)), (.int p0), (.ref sg1)])) (fun t stp => XT.iconstV X1.here hx rfl (1 : Int32) (hb hby d2_3) rfl stp) ?_
  refine own_up (S' := T1.setTop (mkF m 5 #[.val (.int p0)] [(.int (5 : Int32)), (.int (1 : Int32)), (.int p0), (.ref sg1)])) (fun t stp => XT.iconstV X1.here hx rfl (5 : Int32) (hb hby d2_4) rfl stp) ?_
  refine own_callS X1 hx hZ1 hown1 (hw _ (List.mem_of_getElem? (i := 27) rfl)) (hw _ (List.mem_of_getElem? (i := 28) rfl)) (hw _ (List.mem_of_getElem? (i := 29) rfl)) (hw _ (List.mem_of_getElem? (i := 30) rfl)) (by decide) e1 hN1 (rm1 l Z a0 hw [] sg1 p0 (1 : Int32) (5 : Int32) h1 n0 Zn2 (hya) (hyb)) 0 [(.ref sg1), (.int p0), (.int (1 : Int32)), (.int (5 : Int32))] [] (hb hby d2_5) (lenOf own_pd0 rfl) (by decide) (by decide) (by decide) (by decide) rfl (by rw [hml]; rfl) rfl (by show 2 * 0 + _ ≤ _; exact Nat.le_of_eq rfl) rfl ?_
  intro T5 L5 r5 s5 hN5 hV5 hZ5 hown5 X5 q5
  obtain ⟨rfl, M5, e5⟩ := q5
  rw [e5] at hN5
  have N5 := Fr.app N0 M5
  show own_Ends p e below s (own_Q2 Z p0 h0 n0) own_R2.cells own_R2.slots (T5.setTop (mkF m 8 #[.val (.int p0)] []))
  refine own_retV X5 hx hlk hret (hb hby d2_8) hN5 e5 (by decide) (by decide) ?_
  show own_Q2 Z p0 h0 n0 _ T5.heap _
  rw [e5]
  exact ⟨rfl, N5, Kp4⟩
theorem d3_0 : decode jdk_30_method_1_code 0 = .ok (.aload_n 0, 1) := by decide +kernel
theorem d3_1 : decode jdk_30_method_1_code 1 = .ok (.invokespecial 1, 3) := by decide +kernel
theorem d3_4 : decode jdk_30_method_1_code 4 = .ok (.return_, 1) := by decide +kernel
def own_R3 : Room := { frames := 1, cells := 0, slots := 0, locals := 12 }
theorem own_ef3 (oo : Addr) (m : MethodId) : entryFrame m #[(.ref oo)] 1 = mkF m 0 #[.val (.ref oo)] [] := by first | (simp [entryFrame, mkF, argsToLocals, Value.category]; done) | rfl
def own_Q3 (Z : State) (oo : Addr)  (h0 : Heap) (n0 : Nat) (v : Option Value) (h : Heap) (L : List Loc) : Prop := v = none ∧ Fr n0 L ∧ h = h0
set_option maxRecDepth 65536 in
set_option maxHeartbeats 40000000 in
theorem rm3 (l : Launch) (Z : State) (a0 : Array Value) (hw : ∀ d ∈ tables_1, d.before a0 Z = true) (ws : List Jvm.Cond) (oo : Addr)  (h0 : Heap) (n0 : Nat) (Z0 : n0 ≤ h0.size)  :
    MetFree l (⟨"java/lang/Record", "<init>", "()V"⟩ : MethodName) (head1 (Jvm.Cond.code (⟨"java/lang/Record", "<init>", "()V"⟩ : MethodName) jdk_30_method_1_code 1 none :: ws) own_R3) (fun a U => a = #[(.ref oo)] ∧ Z.Warmed39 U.vm ∧ U.heap = h0) (fun _ _ _ _ _ => True) (fun _ U o U' => ∃ v L, o = .returned v ∧ own_Q3 Z oo h0 n0 v U'.heap L ∧ ReturnedEndW U o U' L own_R3.cells own_R3.slots) := by
  refine own_met (Q := own_Q3 Z oo h0 n0) (plainFor_of_name (by first | (simp [plainName, overriddenIn]; done) | decide +kernel)) (own_ef3 oo) ?_
  intro p e s m below meth c T0 hx hby hml hown hnm hret hlk hZ e0 hN0 X0
  have N0 := Fr.nil n0
  refine own_up (S' := T0.setTop (mkF m 1 #[.val (.ref oo)] [(.ref oo)])) (fun t stp => XS.aloadN X0.here hx rfl (hb hby d3_0) rfl rfl stp) ?_
  refine own_init X0 hx hZ hown (hw _ (List.mem_of_getElem? (i := 12) rfl)) (hw _ (List.mem_of_getElem? (i := 13) rfl)) (hw _ (List.mem_of_getElem? (i := 14) rfl)) e0 0 (g' := (mkF m 4 #[.val (.ref oo)] [])) (hb hby d3_1) (by decide) (by decide) rfl (by rw [hml]; rfl) rfl (by show 2 * 0 + _ ≤ _; exact Nat.le_of_eq rfl) rfl ?_
  intro T1 X1 e1
  refine own_retV X1 hx hlk hret (hb hby d3_4) hN0 e1 (by decide) (by decide) ?_
  show own_Q3 Z oo h0 n0 _ T1.heap _
  rw [e1]
  exact ⟨rfl, N0, rfl⟩
theorem d4_0 : decode prog_38_method_1_code 0 = .ok (.aload_n 0, 1) := by decide +kernel
theorem d4_1 : decode prog_38_method_1_code 1 = .ok (.invokespecial 1, 3) := by decide +kernel
theorem d4_4 : decode prog_38_method_1_code 4 = .ok (.iload_n 1, 1) := by decide +kernel
theorem d4_5 : decode prog_38_method_1_code 5 = .ok (.invokestatic 7, 3) := by decide +kernel
theorem d4_8 : decode prog_38_method_1_code 8 = .ok (.ldc 13, 2) := by decide +kernel
theorem d4_10 : decode prog_38_method_1_code 10 = .ok (.iload_n 2, 1) := by decide +kernel
theorem d4_11 : decode prog_38_method_1_code 11 = .ok (.sipush (-1000), 3) := by decide +kernel
theorem d4_14 : decode prog_38_method_1_code 14 = .ok (.sipush 1000, 3) := by decide +kernel
theorem d4_17 : decode prog_38_method_1_code 17 = .ok (.invokestatic 17, 3) := by decide +kernel
theorem d4_20 : decode prog_38_method_1_code 20 = .ok (.aload_n 0, 1) := by decide +kernel
theorem d4_21 : decode prog_38_method_1_code 21 = .ok (.iload_n 1, 1) := by decide +kernel
theorem d4_22 : decode prog_38_method_1_code 22 = .ok (.putfield 23, 3) := by decide +kernel
theorem d4_25 : decode prog_38_method_1_code 25 = .ok (.aload_n 0, 1) := by decide +kernel
theorem d4_26 : decode prog_38_method_1_code 26 = .ok (.iload_n 2, 1) := by decide +kernel
theorem d4_27 : decode prog_38_method_1_code 27 = .ok (.putfield 29, 3) := by decide +kernel
theorem d4_30 : decode prog_38_method_1_code 30 = .ok (.return_, 1) := by decide +kernel
def own_R4 : Room := { frames := 2, cells := 4, slots := 52, locals := 27 }
theorem own_ef4 (oo : Addr) (p1 : Int32) (p2 : Int32) (m : MethodId) : entryFrame m #[(.ref oo), (.int p1), (.int p2)] 3 = mkF m 0 #[.val (.ref oo), .val (.int p1), .val (.int p2)] [] := by first | (simp [entryFrame, mkF, argsToLocals, Value.category]; done) | rfl
def own_Q4 (Z : State) (oo : Addr) (p1 : Int32) (p2 : Int32)  (h0 : Heap) (n0 : Nat) (v : Option Value) (h : Heap) (L : List Loc) : Prop := v = none ∧ Fr n0 L ∧ Keep h0 h [oo] ∧ Fld Z h oo "com/example/escarmouche/escarmouche/rulesets/corporates/Survival" "segment" "I" (.int p1) ∧ Fld Z h oo "com/example/escarmouche/escarmouche/rulesets/corporates/Survival" "roll" "I" (.int p2)
set_option maxRecDepth 65536 in
set_option maxHeartbeats 40000000 in
theorem rm4 (l : Launch) (Z : State) (a0 : Array Value) (hw : ∀ d ∈ tables_1, d.before a0 Z = true) (ws : List Jvm.Cond) (oo : Addr) (p1 : Int32) (p2 : Int32)  (h0 : Heap) (n0 : Nat) (Z0 : n0 ≤ h0.size) (Fs : Fld Z h0 oo "com/example/escarmouche/escarmouche/rulesets/corporates/Survival" "segment" "I" (.int (0 : Int32))) (Fr0 : Fld Z h0 oo "com/example/escarmouche/escarmouche/rulesets/corporates/Survival" "roll" "I" (.int (0 : Int32))) (Et : Exa Z h0 oo "com/example/escarmouche/escarmouche/rulesets/corporates/Survival") (gt : n0 ≤ oo) (hya : ¬ (p1 < (1 : Int32))) (hyb : ¬ ((5 : Int32) < p1)) (hyc : ¬ (p2 < (-1000 : Int32))) (hyd : ¬ ((1000 : Int32) < p2)) :
    MetFree l (⟨"com/example/escarmouche/escarmouche/rulesets/corporates/Survival", "<init>", "(II)V"⟩ : MethodName) (head1 (Jvm.Cond.code (⟨"com/example/escarmouche/escarmouche/rulesets/corporates/Survival", "<init>", "(II)V"⟩ : MethodName) prog_38_method_1_code 3 none :: ws) own_R4) (fun a U => a = #[(.ref oo), (.int p1), (.int p2)] ∧ Z.Warmed39 U.vm ∧ U.heap = h0) (fun _ _ _ _ _ => True) (fun _ U o U' => ∃ v L, o = .returned v ∧ own_Q4 Z oo p1 p2 h0 n0 v U'.heap L ∧ ReturnedEndW U o U' L own_R4.cells own_R4.slots) := by
  refine own_met (Q := own_Q4 Z oo p1 p2 h0 n0) (plainFor_of_name (by first | (simp [plainName, overriddenIn]; done) | decide +kernel)) (own_ef4 oo p1 p2) ?_
  intro p e s m below meth c T0 hx hby hml hown hnm hret hlk hZ e0 hN0 X0
  have N0 := Fr.nil n0
  refine own_up (S' := T0.setTop (mkF m 1 #[.val (.ref oo), .val (.int p1), .val (.int p2)] [(.ref oo)])) (fun t stp => XS.aloadN X0.here hx rfl (hb hby d4_0) rfl rfl stp) ?_
  refine own_callI X0 hx hZ rfl hown (hw _ (List.mem_of_getElem? (i := 7) rfl)) (hw _ (List.mem_of_getElem? (i := 8) rfl)) (hw _ (List.mem_of_getElem? (i := 10) rfl)) (hw _ (List.mem_of_getElem? (i := 11) rfl)) (by decide) e0 hN0 (rm3 l Z a0 hw [] oo h0 n0 Z0 ) 0 oo [] [] (hb hby d4_1) (lenOf own_pd1 rfl) (by decide) (by decide) (by decide) (by decide) rfl (by rw [hml]; rfl) rfl (by show 2 * 0 + _ ≤ _; exact Nat.le_of_eq rfl) rfl ?_
  intro T1 L1 r1 s1 hN1 hV1 hZ1 hown1 X1 q1
  obtain ⟨rfl, M1, e1⟩ := q1
  rw [e1] at hN1
  have N1 := Fr.app N0 M1
  show own_Ends p e below s (own_Q4 Z oo p1 p2 h0 n0) own_R4.cells own_R4.slots (T1.setTop (mkF m 4 #[.val (.ref oo), .val (.int p1), .val (.int p2)] []))
  refine own_up (S' := T1.setTop (mkF m 5 #[.val (.ref oo), .val (.int p1), .val (.int p2)] [(.int p1)])) (fun t stp => XS.iloadN X1.here hx rfl (hb hby d4_4) rfl stp) ?_
  refine own_callS X1 hx hZ1 hown1 (hw _ (List.mem_of_getElem? (i := 15) rfl)) (hw _ (List.mem_of_getElem? (i := 16) rfl)) (hw _ (List.mem_of_getElem? (i := 17) rfl)) (hw _ (List.mem_of_getElem? (i := 18) rfl)) (by decide) e1 hN1 (rm2 l Z a0 hw [] p1 h0 n0 Z0 (hya) (hyb)) 0 [(.int p1)] [] (hb hby d4_5) (lenOf own_pd2 rfl) (by decide) (by decide) (by decide) (by decide) rfl (by rw [hml]; rfl) rfl (by show 2 * 0 + _ ≤ _; exact Nat.le_of_eq rfl) rfl ?_
  intro T2 L2 r2 s2 hN2 hV2 hZ2 hown2 X2 q2
  obtain ⟨rfl, M2, K2⟩ := q2
  have N2 := Fr.app N1 M2
  have Zn3 := Nat.le_trans Z0 K2.1
  have Kp4 := (Keep.refl h0 [oo]).trans K2 all0
  have Fs_5 := Fs.keep K2 nin0
  have Fr0_5 := Fr0.keep K2 nin0
  have Et_5 := Et.keep K2
  show own_Ends p e below s (own_Q4 Z oo p1 p2 h0 n0) own_R4.cells own_R4.slots (T2.setTop (mkF m 8 #[.val (.ref oo), .val (.int p1), .val (.int p2)] []))
  refine own_ldcs X2 hx hZ2 hown2 (hw _ (List.mem_of_getElem? (i := 31) rfl)) (fun d hd => hw d (own_sub d hd)) rfl hN2 16 (hb hby d4_8) (by decide) (by decide) (by decide) (by decide) rfl ?_
  intro sg6 T6 h6 s6 hN6 hV6 hZ6 hown6 X6 e6 E6
  have Zn7 := Nat.le_trans Zn3 E6.1
  have Fs_8 := Fs_5.ext E6
  have Fr0_8 := Fr0_5.ext E6
  have Et_8 := Et_5.ext E6
  have Kp9 := Kp4.ext E6
  show own_Ends p e below s (own_Q4 Z oo p1 p2 h0 n0) own_R4.cells own_R4.slots (T6.setTop (mkF m 10 #[.val (.ref oo), .val (.int p1), .val (.int p2)] [(.ref sg6)]))
  refine own_up (S' := T6.setTop (mkF m 11 #[.val (.ref oo), .val (.int p1), .val (.int p2)] [(.int p2), (.ref sg6)])) (fun t stp => XS.iloadN X6.here hx rfl (hb hby d4_10) rfl stp) ?_
  refine own_up (S' := T6.setTop (mkF m 14 #[.val (.ref oo), .val (.int p1), .val (.int p2)] [(.int (-1000 : Int32)), (.int p2), (.ref sg6)])) (fun t stp => XT.sipushV X6.here hx rfl (-1000 : Int32) (hb hby d4_11) rfl stp) ?_
  refine own_up (S' := T6.setTop (mkF m 17 #[.val (.ref oo), .val (.int p1), .val (.int p2)] [(.int (1000 : Int32)), (.int (-1000 : Int32)), (.int p2), (.ref sg6)])) (fun t stp => XT.sipushV X6.here hx rfl (1000 : Int32) (hb hby d4_14) rfl stp) ?_
  refine own_callS X6 hx hZ6 hown6 (hw _ (List.mem_of_getElem? (i := 32) rfl)) (hw _ (List.mem_of_getElem? (i := 28) rfl)) (hw _ (List.mem_of_getElem? (i := 29) rfl)) (hw _ (List.mem_of_getElem? (i := 30) rfl)) (by decide) e6 hN6 (rm1 l Z a0 hw [] sg6 p2 (-1000 : Int32) (1000 : Int32) h6 n0 Zn7 (hyc) (hyd)) 0 [(.ref sg6), (.int p2), (.int (-1000 : Int32)), (.int (1000 : Int32))] [] (hb hby d4_17) (lenOf own_pd0 rfl) (by decide) (by decide) (by decide) (by decide) rfl (by rw [hml]; rfl) rfl (by show 2 * 0 + _ ≤ _; exact Nat.le_of_eq rfl) rfl ?_
  intro T10 L10 r10 s10 hN10 hV10 hZ10 hown10 X10 q10
  obtain ⟨rfl, M10, e10⟩ := q10
  rw [e10] at hN10
  have N10 := Fr.app N2 M10
  show own_Ends p e below s (own_Q4 Z oo p1 p2 h0 n0) own_R4.cells own_R4.slots (T10.setTop (mkF m 20 #[.val (.ref oo), .val (.int p1), .val (.int p2)] []))
  refine own_up (S' := T10.setTop (mkF m 21 #[.val (.ref oo), .val (.int p1), .val (.int p2)] [(.ref oo)])) (fun t stp => XS.aloadN X10.here hx rfl (hb hby d4_20) rfl rfl stp) ?_
  refine own_up (S' := T10.setTop (mkF m 22 #[.val (.ref oo), .val (.int p1), .val (.int p2)] [(.int p1), (.ref oo)])) (fun t stp => XS.iloadN X10.here hx rfl (hb hby d4_21) rfl stp) ?_
  refine own_put X10 hx hZ10 .int hown10 (hw _ (List.mem_of_getElem? (i := 33) rfl)) Via.refl e10 Fs_8 Et_8 (Or.inr ⟨(hw _ (List.mem_of_getElem? (i := 34) rfl)), rfl, hnm⟩) (hw _ (List.mem_of_getElem? (i := 2) rfl)) (by decide) (v' := (.int p1)) (rfl) (rfl) (g' := (mkF m 25 #[.val (.ref oo), .val (.int p1), .val (.int p2)] [])) (hb hby d4_22) rfl rfl rfl ?_
  intro T11 h11 X11 e11 W11
  have Zn12 := Nat.le_trans Zn7 (Nat.le_of_eq W11.size.symm)
  have hNz12 := own_Sn_le hN10 (Nat.le_of_eq W11.size.symm)
  have Fr0_13 := Fr0_8.other W11 (Or.inr (slot_ne (Or.inr (hw _ (List.mem_of_getElem? (i := 36) rfl))) (Or.inr (hw _ (List.mem_of_getElem? (i := 34) rfl))) (by decide) (t := .int) (t' := .int) (by decide) (by decide)))
  have Et_13 := Et_8.wr W11
  have Kp14 := Kp9.wr W11 (Or.inl (List.mem_of_getElem? (i := 0) rfl))
  have N11 := Fr.snoc X11 N10 gt
  have Fsegment_11 := Fs_8.same W11
  refine own_up (S' := T11.setTop (mkF m 26 #[.val (.ref oo), .val (.int p1), .val (.int p2)] [(.ref oo)])) (fun t stp => XS.aloadN X11.here hx rfl (hb hby d4_25) rfl rfl stp) ?_
  refine own_up (S' := T11.setTop (mkF m 27 #[.val (.ref oo), .val (.int p1), .val (.int p2)] [(.int p2), (.ref oo)])) (fun t stp => XS.iloadN X11.here hx rfl (hb hby d4_26) rfl stp) ?_
  refine own_put X11 hx hZ10 .int hown10 (hw _ (List.mem_of_getElem? (i := 35) rfl)) Via.refl e11 Fr0_13 Et_13 (Or.inr ⟨(hw _ (List.mem_of_getElem? (i := 36) rfl)), rfl, hnm⟩) (hw _ (List.mem_of_getElem? (i := 2) rfl)) (by decide) (v' := (.int p2)) (rfl) (rfl) (g' := (mkF m 30 #[.val (.ref oo), .val (.int p1), .val (.int p2)] [])) (hb hby d4_27) rfl rfl rfl ?_
  intro T15 h15 X15 e15 W15
  have Zn16 := Nat.le_trans Zn12 (Nat.le_of_eq W15.size.symm)
  have hNz16 := own_Sn_le hNz12 (Nat.le_of_eq W15.size.symm)
  have Fsegment_17 := Fsegment_11.other W15 (Or.inr (slot_ne (Or.inr (hw _ (List.mem_of_getElem? (i := 34) rfl))) (Or.inr (hw _ (List.mem_of_getElem? (i := 36) rfl))) (by decide) (t := .int) (t' := .int) (by decide) (by decide)))
  have Et_17 := Et_13.wr W15
  have Kp18 := Kp14.wr W15 (Or.inl (List.mem_of_getElem? (i := 0) rfl))
  have N15 := Fr.snoc X15 N11 gt
  have Froll_15 := Fr0_13.same W15
  refine own_retV X15 hx hlk hret (hb hby d4_30) hNz16 e15 (by decide) (by decide) ?_
  show own_Q4 Z oo p1 p2 h0 n0 _ T15.heap _
  rw [e15]
  exact ⟨rfl, N15, Kp18, Fsegment_17, Froll_15⟩
theorem d5_0 : decode prog_38_method_2_code 0 = .ok (.aload_n 0, 1) := by decide +kernel
theorem d5_1 : decode prog_38_method_2_code 1 = .ok (.getfield 29, 3) := by decide +kernel
theorem d5_4 : decode prog_38_method_2_code 4 = .ok (.bipush 15, 2) := by decide +kernel
theorem d5_6 : decode prog_38_method_2_code 6 = .ok (.if_icmp .lt 7, 3) := by decide +kernel
theorem d5_9 : decode prog_38_method_2_code 9 = .ok (.iconst 1, 1) := by decide +kernel
theorem d5_10 : decode prog_38_method_2_code 10 = .ok (.goto 4, 3) := by decide +kernel
theorem d5_13 : decode prog_38_method_2_code 13 = .ok (.iconst 0, 1) := by decide +kernel
theorem d5_14 : decode prog_38_method_2_code 14 = .ok (.ireturn, 1) := by decide +kernel
def own_R5 : Room := { frames := 0, cells := 0, slots := 0, locals := 0 }
theorem own_ef5 (oo : Addr) (m : MethodId) : entryFrame m #[(.ref oo)] 1 = mkF m 0 #[.val (.ref oo)] [] := by first | (simp [entryFrame, mkF, argsToLocals, Value.category]; done) | rfl
def own_Q5 (Z : State) (oo : Addr) (w0 : Int32) (h0 : Heap) (n0 : Nat) (v : Option Value) (h : Heap) (L : List Loc) : Prop := v = some (.int (if w0 < (15 : Int32) then (0 : Int32) else (1 : Int32))) ∧ Fr n0 L ∧ h = h0
set_option maxRecDepth 65536 in
set_option maxHeartbeats 40000000 in
theorem rm5 (l : Launch) (Z : State) (a0 : Array Value) (hw : ∀ d ∈ tables_1, d.before a0 Z = true) (ws : List Jvm.Cond) (oo : Addr) (w0 : Int32) (h0 : Heap) (n0 : Nat) (Z0 : n0 ≤ h0.size) (Fr0 : Fld Z h0 oo "com/example/escarmouche/escarmouche/rulesets/corporates/Survival" "roll" "I" (.int w0)) :
    MetFree l (⟨"com/example/escarmouche/escarmouche/rulesets/corporates/Survival", "success", "()Z"⟩ : MethodName) (head1 (Jvm.Cond.code (⟨"com/example/escarmouche/escarmouche/rulesets/corporates/Survival", "success", "()Z"⟩ : MethodName) prog_38_method_2_code 1 (some .boolean) :: ws) own_R5) (fun a U => a = #[(.ref oo)] ∧ Z.Warmed39 U.vm ∧ U.heap = h0) (fun _ _ _ _ _ => True) (fun _ U o U' => ∃ v L, o = .returned v ∧ own_Q5 Z oo w0 h0 n0 v U'.heap L ∧ ReturnedEndW U o U' L own_R5.cells own_R5.slots) := by
  refine own_met (Q := own_Q5 Z oo w0 h0 n0) (plainFor_of_name (by first | (simp [plainName, overriddenIn]; done) | decide +kernel)) (own_ef5 oo) ?_
  intro p e s m below meth c T0 hx hby hml hown hnm hret hlk hZ e0 hN0 X0
  have N0 := Fr.nil n0
  refine own_up (S' := T0.setTop (mkF m 1 #[.val (.ref oo)] [(.ref oo)])) (fun t stp => XS.aloadN X0.here hx rfl (hb hby d5_0) rfl rfl stp) ?_
  refine own_get X0 hx hZ hown (hw _ (List.mem_of_getElem? (i := 35) rfl)) Via.refl e0 Fr0 (g' := (mkF m 4 #[.val (.ref oo)] [(.int w0)])) (hb hby d5_1) rfl rfl rfl ?_
  intro T1 X1 e1
  refine own_up (S' := T1.setTop (mkF m 6 #[.val (.ref oo)] [(.int (15 : Int32)), (.int w0)])) (fun t stp => XT.bipushV X1.here hx rfl (15 : Int32) (hb hby d5_4) rfl stp) ?_
  by_cases hc6_2 : w0 < (15 : Int32)
  · have ihc6_2 : w0.toInt < 15 := own_ilt hc6_2
    refine own_up (S' := T1.setTop (mkF m 13 #[.val (.ref oo)] [])) (fun t stp => XS.icmpYes X1.here hx rfl (pc0 := 6) (pc' := 13) rfl (hb hby d5_6) rfl (XT.ii_lt_t hc6_2) (by decide) (by decide) stp) ?_
    refine own_up (S' := T1.setTop (mkF m 14 #[.val (.ref oo)] [(.int (0 : Int32))])) (fun t stp => XT.iconstV X1.here hx rfl (0 : Int32) (hb hby d5_13) rfl stp) ?_
    refine own_retN X1 hx hlk (t := .boolean) hret (by simp) (z' := (0 : Int32)) rfl (hb hby d5_14) hN0 e1 (by decide) (by decide) ?_
    show own_Q5 Z oo w0 h0 n0 _ T1.heap _
    rw [e1]
    exact ⟨(by simp [hc6_2]), N0, rfl⟩
  · have ihc6_2 : 15 ≤ w0.toInt := own_inl hc6_2
    refine own_up (S' := T1.setTop (mkF m 9 #[.val (.ref oo)] [])) (fun t stp => XS.icmpNo X1.here hx rfl (hb hby d5_6) rfl (XT.ii_lt_f hc6_2) stp) ?_
    refine own_up (S' := T1.setTop (mkF m 10 #[.val (.ref oo)] [(.int (1 : Int32))])) (fun t stp => XT.iconstV X1.here hx rfl (1 : Int32) (hb hby d5_9) rfl stp) ?_
    refine own_up (S' := T1.setTop (mkF m 14 #[.val (.ref oo)] [(.int (1 : Int32))])) (fun t stp => XS.goto X1.here hx rfl (pc0 := 10) (pc' := 14) rfl (hb hby d5_10) (by decide) (by decide) stp) ?_
    refine own_retN X1 hx hlk (t := .boolean) hret (by simp) (z' := (1 : Int32)) rfl (hb hby d5_14) hN0 e1 (by decide) (by decide) ?_
    show own_Q5 Z oo w0 h0 n0 _ T1.heap _
    rw [e1]
    exact ⟨(by simp [hc6_2]), N0, rfl⟩
theorem own_ef0 (sa : Int32) (rb : Int32) (m : MethodId) : entryFrame m #[(.int sa), (.int rb)] maxLocals = mkF m 0 #[.val (.int sa), .val (.int rb), .unset, .unset, .unset, .unset] [] := by first | (simp [entryFrame, mkF, argsToLocals, Value.category, maxLocals]; done) | rfl
def own_Q0 (Z : State) (sa : Int32) (rb : Int32)  (h0 : Heap) (n0 : Nat) (v : Option Value) (h : Heap) (L : List Loc) : Prop := v = some (.int 1) ∧ Fr n0 L
set_option maxRecDepth 65536 in
set_option maxHeartbeats 40000000 in
theorem rm0 (l : Launch) (Z : State) (a0 : Array Value) (hw : ∀ d ∈ tables_1, d.before a0 Z = true) (ws : List Jvm.Cond) (sa : Int32) (rb : Int32)  (h0 : Heap) (n0 : Nat) (Z0 : n0 ≤ h0.size)  :
    MetFree l x (head1 (Jvm.Cond.code x code maxLocals ret :: ws) room_1) (fun a U => a = #[(.int sa), (.int rb)] ∧ Z.Warmed39 U.vm ∧ U.heap = h0) (fun _ _ _ _ _ => True) (fun _ U o U' => ∃ v L, o = .returned v ∧ own_Q0 Z sa rb h0 n0 v U'.heap L ∧ ReturnedEndW U o U' L room_1.cells room_1.slots) := by
  refine own_met (Q := own_Q0 Z sa rb h0 n0) (plainFor_of_name (by first | (simp [plainName, overriddenIn, x]; done) | decide +kernel)) (own_ef0 sa rb) ?_
  intro p e s m below meth c T0 hx hby hml hown hnm hret hlk hZ e0 hN0 X0
  have hown : s.vm.findClass "com/example/escarmouche/escarmouche/rulesets/corporates/SurvivalSuccessPinLaw" = some m.cls := hown
  have N0 := Fr.nil n0
  have zz15 : (15 : Int32).toInt = 15 := rfl
  refine own_up (S' := T0.setTop (mkF m 1 #[.val (.int sa), .val (.int rb), .unset, .unset, .unset, .unset] [(.int sa)])) (fun t stp => XS.iloadN X0.here hx rfl (hb hby at_0) rfl stp) ?_
  refine own_up (S' := T0.setTop (mkF m 3 #[.val (.int sa), .val (.int rb), .unset, .unset, .unset, .unset] [(.int (2147483647 : Int32)), (.int sa)])) (fun t stp => X0.ldcI hx hown (mvT hZ (hw _ (List.mem_of_getElem? (i := 0) rfl))) rfl (hb hby at_1) stp) ?_
  refine own_up (S' := T0.setTop (mkF m 4 #[.val (.int sa), .val (.int rb), .unset, .unset, .unset, .unset] [(.int (sa &&& (2147483647 : Int32)))])) (fun t stp => XS.iand X0.here hx rfl (hb hby at_3) rfl stp) ?_
  refine own_up (S' := T0.setTop (mkF m 5 #[.val (.int sa), .val (.int rb), .unset, .unset, .unset, .unset] [(.int (5 : Int32)), (.int (sa &&& (2147483647 : Int32)))])) (fun t stp => XT.iconstV X0.here hx rfl (5 : Int32) (hb hby at_4) rfl stp) ?_
  refine own_up (S' := T0.setTop (mkF m 6 #[.val (.int sa), .val (.int rb), .unset, .unset, .unset, .unset] [(.int ((sa &&& (2147483647 : Int32)) % (5 : Int32)))])) (fun t stp => iremM X0 hx rfl (hb hby at_5) rfl (by decide) stp) ?_
  refine own_up (S' := T0.setTop (mkF m 7 #[.val (.int sa), .val (.int rb), .unset, .unset, .unset, .unset] [(.int (1 : Int32)), (.int ((sa &&& (2147483647 : Int32)) % (5 : Int32)))])) (fun t stp => XT.iconstV X0.here hx rfl (1 : Int32) (hb hby at_6) rfl stp) ?_
  refine own_up (S' := T0.setTop (mkF m 8 #[.val (.int sa), .val (.int rb), .unset, .unset, .unset, .unset] [(.int (((sa &&& (2147483647 : Int32)) % (5 : Int32)) + (1 : Int32)))])) (fun t stp => XS.iadd X0.here hx rfl (hb hby at_7) rfl stp) ?_
  obtain ⟨sgm, h_sgm⟩ : ∃ z : Int32, z = (((sa &&& (2147483647 : Int32)) % (5 : Int32)) + (1 : Int32)) := ⟨_, rfl⟩
  rw [← h_sgm]
  refine own_up (S' := T0.setTop (mkF m 9 #[.val (.int sa), .val (.int rb), .val (.int sgm), .unset, .unset, .unset] [])) (fun t stp => XS.istoreN X0.here hx rfl (hb hby at_8) rfl (l' := #[.val (.int sa), .val (.int rb), .val (.int sgm), .unset, .unset, .unset]) rfl stp) ?_
  have hsg := own_sg h_sgm
  refine own_up (S' := T0.setTop (mkF m 10 #[.val (.int sa), .val (.int rb), .val (.int sgm), .unset, .unset, .unset] [(.int rb)])) (fun t stp => XS.iloadN X0.here hx rfl (hb hby at_9) rfl stp) ?_
  refine own_up (S' := T0.setTop (mkF m 12 #[.val (.int sa), .val (.int rb), .val (.int sgm), .unset, .unset, .unset] [(.int (2147483647 : Int32)), (.int rb)])) (fun t stp => X0.ldcI hx hown (mvT hZ (hw _ (List.mem_of_getElem? (i := 0) rfl))) rfl (hb hby at_10) stp) ?_
  refine own_up (S' := T0.setTop (mkF m 13 #[.val (.int sa), .val (.int rb), .val (.int sgm), .unset, .unset, .unset] [(.int (rb &&& (2147483647 : Int32)))])) (fun t stp => XS.iand X0.here hx rfl (hb hby at_12) rfl stp) ?_
  refine own_up (S' := T0.setTop (mkF m 16 #[.val (.int sa), .val (.int rb), .val (.int sgm), .unset, .unset, .unset] [(.int (2001 : Int32)), (.int (rb &&& (2147483647 : Int32)))])) (fun t stp => XT.sipushV X0.here hx rfl (2001 : Int32) (hb hby at_13) rfl stp) ?_
  refine own_up (S' := T0.setTop (mkF m 17 #[.val (.int sa), .val (.int rb), .val (.int sgm), .unset, .unset, .unset] [(.int ((rb &&& (2147483647 : Int32)) % (2001 : Int32)))])) (fun t stp => iremM X0 hx rfl (hb hby at_16) rfl (by decide) stp) ?_
  refine own_up (S' := T0.setTop (mkF m 20 #[.val (.int sa), .val (.int rb), .val (.int sgm), .unset, .unset, .unset] [(.int (1000 : Int32)), (.int ((rb &&& (2147483647 : Int32)) % (2001 : Int32)))])) (fun t stp => XT.sipushV X0.here hx rfl (1000 : Int32) (hb hby at_17) rfl stp) ?_
  refine own_up (S' := T0.setTop (mkF m 21 #[.val (.int sa), .val (.int rb), .val (.int sgm), .unset, .unset, .unset] [(.int (((rb &&& (2147483647 : Int32)) % (2001 : Int32)) - (1000 : Int32)))])) (fun t stp => XS.isub X0.here hx rfl (hb hby at_20) rfl stp) ?_
  obtain ⟨rl, h_rl⟩ : ∃ z : Int32, z = (((rb &&& (2147483647 : Int32)) % (2001 : Int32)) - (1000 : Int32)) := ⟨_, rfl⟩
  rw [← h_rl]
  refine own_up (S' := T0.setTop (mkF m 22 #[.val (.int sa), .val (.int rb), .val (.int sgm), .val (.int rl), .unset, .unset] [])) (fun t stp => XS.istoreN X0.here hx rfl (hb hby at_21) rfl (l' := #[.val (.int sa), .val (.int rb), .val (.int sgm), .val (.int rl), .unset, .unset]) rfl stp) ?_
  have hrl := own_rl h_rl
  refine own_new X0 hx hZ hown (hw _ (List.mem_of_getElem? (i := 1) rfl)) (hw _ (List.mem_of_getElem? (i := 2) rfl)) (hw _ (List.mem_of_getElem? (i := 3) rfl)) e0 rfl (hb hby at_22) (by decide) (by decide) ?_
  intro T1 h1 ob hb1 X1 e1 E1 A1 D1
  have g_ob : n0 ≤ ob := Nat.le_trans Z0 (Nat.le_of_eq hb1.symm)
  have Zn2 := Nat.le_trans Z0 E1.1
  have hNz2 := own_Sn_le hN0 E1.1
  have Fsegment_ob : Fld Z h1 ob "com/example/escarmouche/escarmouche/rulesets/corporates/Survival" "segment" "I" (.int (0 : Int32)) := D1 (Or.inr (hw _ (List.mem_of_getElem? (i := 34) rfl))) (ty := .int) (by decide)
  have Froll_ob : Fld Z h1 ob "com/example/escarmouche/escarmouche/rulesets/corporates/Survival" "roll" "I" (.int (0 : Int32)) := D1 (Or.inr (hw _ (List.mem_of_getElem? (i := 36) rfl))) (ty := .int) (by decide)
  show own_Ends p e below s (own_Q0 Z sa rb h0 n0) room_1.cells room_1.slots (T1.setTop (mkF m 25 #[.val (.int sa), .val (.int rb), .val (.int sgm), .val (.int rl), .unset, .unset] [(.ref ob)]))
  refine own_up (S' := T1.setTop (mkF m 26 #[.val (.int sa), .val (.int rb), .val (.int sgm), .val (.int rl), .unset, .unset] [(.ref ob), (.ref ob)])) (fun t stp => XS.dup X1.here hx rfl (hb hby at_25) rfl rfl stp) ?_
  refine own_up (S' := T1.setTop (mkF m 27 #[.val (.int sa), .val (.int rb), .val (.int sgm), .val (.int rl), .unset, .unset] [(.int sgm), (.ref ob), (.ref ob)])) (fun t stp => XS.iloadN X1.here hx rfl (hb hby at_26) rfl stp) ?_
  refine own_up (S' := T1.setTop (mkF m 28 #[.val (.int sa), .val (.int rb), .val (.int sgm), .val (.int rl), .unset, .unset] [(.int rl), (.int sgm), (.ref ob), (.ref ob)])) (fun t stp => XS.iloadN X1.here hx rfl (hb hby at_27) rfl stp) ?_
  refine own_callI X1 hx hZ rfl hown (hw _ (List.mem_of_getElem? (i := 4) rfl)) (hw _ (List.mem_of_getElem? (i := 5) rfl)) (hw _ (List.mem_of_getElem? (i := 3) rfl)) (hw _ (List.mem_of_getElem? (i := 6) rfl)) (by decide) e1 hNz2 (rm4 l Z a0 hw [] ob sgm rl h1 n0 Zn2 Fsegment_ob Froll_ob A1 g_ob (hsg.1) (hsg.2) (hrl.1) (hrl.2)) 1 ob [(.int sgm), (.int rl)] [(.ref ob)] (hb hby at_28) (lenOf own_pd3 rfl) (by decide) (by decide) (by decide) (by decide) rfl (by rw [hml]; rfl) rfl (by show 2 * 0 + _ ≤ _; exact Nat.le_of_eq rfl) rfl ?_
  intro T4 L4 r4 s4 hN4 hV4 hZ4 hown4 X4 q4
  obtain ⟨rfl, M4, K4, G4a_4, G4b_4⟩ := q4
  have N4 := Fr.app N0 M4
  have Zn5 := Nat.le_trans Zn2 K4.1
  have A1_6 := A1.keep K4
  show own_Ends p e below s (own_Q0 Z sa rb h0 n0) room_1.cells room_1.slots (T4.setTop (mkF m 31 #[.val (.int sa), .val (.int rb), .val (.int sgm), .val (.int rl), .unset, .unset] [(.ref ob)]))
  refine own_up (S' := T4.setTop (mkF m 33 #[.val (.int sa), .val (.int rb), .val (.int sgm), .val (.int rl), .val (.ref ob), .unset] [])) (fun t stp => XS.astore X4.here hx rfl (hb hby at_31) rfl rfl (l' := #[.val (.int sa), .val (.int rb), .val (.int sgm), .val (.int rl), .val (.ref ob), .unset]) rfl stp) ?_
  refine own_up (S' := T4.setTop (mkF m 34 #[.val (.int sa), .val (.int rb), .val (.int sgm), .val (.int rl), .val (.ref ob), .unset] [(.int rl)])) (fun t stp => XS.iloadN X4.here hx rfl (hb hby at_33) rfl stp) ?_
  refine own_up (S' := T4.setTop (mkF m 36 #[.val (.int sa), .val (.int rb), .val (.int sgm), .val (.int rl), .val (.ref ob), .unset] [(.int (14 : Int32)), (.int rl)])) (fun t stp => XT.bipushV X4.here hx rfl (14 : Int32) (hb hby at_34) rfl stp) ?_
  by_cases hc36_7 : rl < (14 : Int32)
  · have ihc36_7 : rl.toInt < 14 := own_ilt hc36_7
    refine own_up (S' := T4.setTop (mkF m 39 #[.val (.int sa), .val (.int rb), .val (.int sgm), .val (.int rl), .val (.ref ob), .unset] [])) (fun t stp => XS.icmpNo X4.here hx rfl (hb hby at_36) rfl (XT.ii_ge_f hc36_7) stp) ?_
    refine own_up (S' := T4.setTop (mkF m 40 #[.val (.int sa), .val (.int rb), .val (.int sgm), .val (.int rl), .val (.ref ob), .unset] [(.int (0 : Int32))])) (fun t stp => XT.iconstV X4.here hx rfl (0 : Int32) (hb hby at_39) rfl stp) ?_
    refine own_up (S' := T4.setTop (mkF m 42 #[.val (.int sa), .val (.int rb), .val (.int sgm), .val (.int rl), .val (.ref ob), .val (.int (0 : Int32))] [])) (fun t stp => XS.istore X4.here hx rfl (hb hby at_40) rfl (l' := #[.val (.int sa), .val (.int rb), .val (.int sgm), .val (.int rl), .val (.ref ob), .val (.int (0 : Int32))]) rfl stp) ?_
    refine own_up (S' := T4.setTop (mkF m 60 #[.val (.int sa), .val (.int rb), .val (.int sgm), .val (.int rl), .val (.ref ob), .val (.int (0 : Int32))] [])) (fun t stp => XS.goto X4.here hx rfl (pc0 := 42) (pc' := 60) rfl (hb hby at_42) (by decide) (by decide) stp) ?_
    refine own_up (S' := T4.setTop (mkF m 62 #[.val (.int sa), .val (.int rb), .val (.int sgm), .val (.int rl), .val (.ref ob), .val (.int (0 : Int32))] [(.ref ob)])) (fun t stp => XS.aload X4.here hx rfl (hb hby at_60) rfl rfl stp) ?_
    refine own_callV X4 hx hZ4 hown4 (hw _ (List.mem_of_getElem? (i := 37) rfl)) (hw _ (List.mem_of_getElem? (i := 38) rfl)) (hw _ (List.mem_of_getElem? (i := 40) rfl)) (hw _ (List.mem_of_getElem? (i := 39) rfl)) (hw _ (List.mem_of_getElem? (i := 3) rfl)) (hw _ (List.mem_of_getElem? (i := 41) rfl)) (by decide) rfl hN4 (rm5 l Z a0 hw [] ob rl T4.heap n0 Zn5 G4b_4) 0 A1_6 [] [] (hb hby at_62) (lenOf own_pd4 rfl) (by decide) (by decide) (by decide) (by decide) rfl (by rw [hml]; rfl) rfl (by show 2 * 0 + _ ≤ _; exact Nat.le_of_eq rfl) rfl ?_
    intro T8 L8 r8 s8 hN8 hV8 hZ8 hown8 X8 q8
    obtain ⟨rfl, M8, e8⟩ := q8
    rw [e8] at hN8
    have N8 := Fr.app N4 M8
    show own_Ends p e below s (own_Q0 Z sa rb h0 n0) room_1.cells room_1.slots (T8.setTop (mkF m 65 #[.val (.int sa), .val (.int rb), .val (.int sgm), .val (.int rl), .val (.ref ob), .val (.int (0 : Int32))] [(.int (if rl < (15 : Int32) then (0 : Int32) else (1 : Int32)))]))
    refine own_up (S' := T8.setTop (mkF m 67 #[.val (.int sa), .val (.int rb), .val (.int sgm), .val (.int rl), .val (.ref ob), .val (.int (0 : Int32))] [(.int (0 : Int32)), (.int (if rl < (15 : Int32) then (0 : Int32) else (1 : Int32)))])) (fun t stp => XS.iload X8.here hx rfl (hb hby at_65) rfl stp) ?_
    have hc67_9 : (if rl < (15 : Int32) then (0 : Int32) else (1 : Int32)) = (0 : Int32) := by rw [if_pos (own_ilt_of (by omega))]
    have ihc67_9 : (if rl < (15 : Int32) then (0 : Int32) else (1 : Int32)).toInt = 0 := own_ieq hc67_9
    refine own_up (S' := T8.setTop (mkF m 70 #[.val (.int sa), .val (.int rb), .val (.int sgm), .val (.int rl), .val (.ref ob), .val (.int (0 : Int32))] [])) (fun t stp => XS.icmpNo X8.here hx rfl (hb hby at_67) rfl (XT.ii_ne_f hc67_9) stp) ?_
    refine own_up (S' := T8.setTop (mkF m 71 #[.val (.int sa), .val (.int rb), .val (.int sgm), .val (.int rl), .val (.ref ob), .val (.int (0 : Int32))] [(.int (1 : Int32))])) (fun t stp => XT.iconstV X8.here hx rfl (1 : Int32) (hb hby at_70) rfl stp) ?_
    refine own_up (S' := T8.setTop (mkF m 75 #[.val (.int sa), .val (.int rb), .val (.int sgm), .val (.int rl), .val (.ref ob), .val (.int (0 : Int32))] [(.int (1 : Int32))])) (fun t stp => XS.goto X8.here hx rfl (pc0 := 71) (pc' := 75) rfl (hb hby at_71) (by decide) (by decide) stp) ?_
    refine own_retN X8 hx hlk (t := .boolean) hret (by simp) (z' := (1 : Int32)) rfl (hb hby at_75) hN8 e8 (by decide) (by decide) ?_
    show own_Q0 Z sa rb h0 n0 _ T8.heap _
    rw [e8]
    exact ⟨rfl, N8⟩
  · have ihc36_7 : 14 ≤ rl.toInt := own_inl hc36_7
    refine own_up (S' := T4.setTop (mkF m 45 #[.val (.int sa), .val (.int rb), .val (.int sgm), .val (.int rl), .val (.ref ob), .unset] [])) (fun t stp => XS.icmpYes X4.here hx rfl (pc0 := 36) (pc' := 45) rfl (hb hby at_36) rfl (XT.ii_ge_t hc36_7) (by decide) (by decide) stp) ?_
    refine own_up (S' := T4.setTop (mkF m 46 #[.val (.int sa), .val (.int rb), .val (.int sgm), .val (.int rl), .val (.ref ob), .unset] [(.int rl)])) (fun t stp => XS.iloadN X4.here hx rfl (hb hby at_45) rfl stp) ?_
    refine own_up (S' := T4.setTop (mkF m 48 #[.val (.int sa), .val (.int rb), .val (.int sgm), .val (.int rl), .val (.ref ob), .unset] [(.int (14 : Int32)), (.int rl)])) (fun t stp => XT.bipushV X4.here hx rfl (14 : Int32) (hb hby at_46) rfl stp) ?_
    by_cases hc48_10 : rl = (14 : Int32)
    · have ihc48_10 : rl.toInt = 14 := own_ieq hc48_10
      refine own_up (S' := T4.setTop (mkF m 51 #[.val (.int sa), .val (.int rb), .val (.int sgm), .val (.int rl), .val (.ref ob), .unset] [])) (fun t stp => XS.icmpNo X4.here hx rfl (hb hby at_48) rfl (XT.ii_ne_f hc48_10) stp) ?_
      refine own_up (S' := T4.setTop (mkF m 52 #[.val (.int sa), .val (.int rb), .val (.int sgm), .val (.int rl), .val (.ref ob), .unset] [(.int (0 : Int32))])) (fun t stp => XT.iconstV X4.here hx rfl (0 : Int32) (hb hby at_51) rfl stp) ?_
      refine own_up (S' := T4.setTop (mkF m 54 #[.val (.int sa), .val (.int rb), .val (.int sgm), .val (.int rl), .val (.ref ob), .val (.int (0 : Int32))] [])) (fun t stp => XS.istore X4.here hx rfl (hb hby at_52) rfl (l' := #[.val (.int sa), .val (.int rb), .val (.int sgm), .val (.int rl), .val (.ref ob), .val (.int (0 : Int32))]) rfl stp) ?_
      refine own_up (S' := T4.setTop (mkF m 60 #[.val (.int sa), .val (.int rb), .val (.int sgm), .val (.int rl), .val (.ref ob), .val (.int (0 : Int32))] [])) (fun t stp => XS.goto X4.here hx rfl (pc0 := 54) (pc' := 60) rfl (hb hby at_54) (by decide) (by decide) stp) ?_
      refine own_up (S' := T4.setTop (mkF m 62 #[.val (.int sa), .val (.int rb), .val (.int sgm), .val (.int rl), .val (.ref ob), .val (.int (0 : Int32))] [(.ref ob)])) (fun t stp => XS.aload X4.here hx rfl (hb hby at_60) rfl rfl stp) ?_
      refine own_callV X4 hx hZ4 hown4 (hw _ (List.mem_of_getElem? (i := 37) rfl)) (hw _ (List.mem_of_getElem? (i := 38) rfl)) (hw _ (List.mem_of_getElem? (i := 40) rfl)) (hw _ (List.mem_of_getElem? (i := 39) rfl)) (hw _ (List.mem_of_getElem? (i := 3) rfl)) (hw _ (List.mem_of_getElem? (i := 41) rfl)) (by decide) rfl hN4 (rm5 l Z a0 hw [] ob rl T4.heap n0 Zn5 G4b_4) 0 A1_6 [] [] (hb hby at_62) (lenOf own_pd4 rfl) (by decide) (by decide) (by decide) (by decide) rfl (by rw [hml]; rfl) rfl (by show 2 * 0 + _ ≤ _; exact Nat.le_of_eq rfl) rfl ?_
      intro T11 L11 r11 s11 hN11 hV11 hZ11 hown11 X11 q11
      obtain ⟨rfl, M11, e11⟩ := q11
      rw [e11] at hN11
      have N11 := Fr.app N4 M11
      show own_Ends p e below s (own_Q0 Z sa rb h0 n0) room_1.cells room_1.slots (T11.setTop (mkF m 65 #[.val (.int sa), .val (.int rb), .val (.int sgm), .val (.int rl), .val (.ref ob), .val (.int (0 : Int32))] [(.int (if rl < (15 : Int32) then (0 : Int32) else (1 : Int32)))]))
      refine own_up (S' := T11.setTop (mkF m 67 #[.val (.int sa), .val (.int rb), .val (.int sgm), .val (.int rl), .val (.ref ob), .val (.int (0 : Int32))] [(.int (0 : Int32)), (.int (if rl < (15 : Int32) then (0 : Int32) else (1 : Int32)))])) (fun t stp => XS.iload X11.here hx rfl (hb hby at_65) rfl stp) ?_
      have hc67_12 : (if rl < (15 : Int32) then (0 : Int32) else (1 : Int32)) = (0 : Int32) := by rw [if_pos (own_ilt_of (by omega))]
      have ihc67_12 : (if rl < (15 : Int32) then (0 : Int32) else (1 : Int32)).toInt = 0 := own_ieq hc67_12
      refine own_up (S' := T11.setTop (mkF m 70 #[.val (.int sa), .val (.int rb), .val (.int sgm), .val (.int rl), .val (.ref ob), .val (.int (0 : Int32))] [])) (fun t stp => XS.icmpNo X11.here hx rfl (hb hby at_67) rfl (XT.ii_ne_f hc67_12) stp) ?_
      refine own_up (S' := T11.setTop (mkF m 71 #[.val (.int sa), .val (.int rb), .val (.int sgm), .val (.int rl), .val (.ref ob), .val (.int (0 : Int32))] [(.int (1 : Int32))])) (fun t stp => XT.iconstV X11.here hx rfl (1 : Int32) (hb hby at_70) rfl stp) ?_
      refine own_up (S' := T11.setTop (mkF m 75 #[.val (.int sa), .val (.int rb), .val (.int sgm), .val (.int rl), .val (.ref ob), .val (.int (0 : Int32))] [(.int (1 : Int32))])) (fun t stp => XS.goto X11.here hx rfl (pc0 := 71) (pc' := 75) rfl (hb hby at_71) (by decide) (by decide) stp) ?_
      refine own_retN X11 hx hlk (t := .boolean) hret (by simp) (z' := (1 : Int32)) rfl (hb hby at_75) hN11 e11 (by decide) (by decide) ?_
      show own_Q0 Z sa rb h0 n0 _ T11.heap _
      rw [e11]
      exact ⟨rfl, N11⟩
    · have ihc48_10 : rl.toInt ≠ 14 := own_ine hc48_10
      refine own_up (S' := T4.setTop (mkF m 57 #[.val (.int sa), .val (.int rb), .val (.int sgm), .val (.int rl), .val (.ref ob), .unset] [])) (fun t stp => XS.icmpYes X4.here hx rfl (pc0 := 48) (pc' := 57) rfl (hb hby at_48) rfl (XT.ii_ne_t hc48_10) (by decide) (by decide) stp) ?_
      refine own_up (S' := T4.setTop (mkF m 58 #[.val (.int sa), .val (.int rb), .val (.int sgm), .val (.int rl), .val (.ref ob), .unset] [(.int (1 : Int32))])) (fun t stp => XT.iconstV X4.here hx rfl (1 : Int32) (hb hby at_57) rfl stp) ?_
      refine own_up (S' := T4.setTop (mkF m 60 #[.val (.int sa), .val (.int rb), .val (.int sgm), .val (.int rl), .val (.ref ob), .val (.int (1 : Int32))] [])) (fun t stp => XS.istore X4.here hx rfl (hb hby at_58) rfl (l' := #[.val (.int sa), .val (.int rb), .val (.int sgm), .val (.int rl), .val (.ref ob), .val (.int (1 : Int32))]) rfl stp) ?_
      refine own_up (S' := T4.setTop (mkF m 62 #[.val (.int sa), .val (.int rb), .val (.int sgm), .val (.int rl), .val (.ref ob), .val (.int (1 : Int32))] [(.ref ob)])) (fun t stp => XS.aload X4.here hx rfl (hb hby at_60) rfl rfl stp) ?_
      refine own_callV X4 hx hZ4 hown4 (hw _ (List.mem_of_getElem? (i := 37) rfl)) (hw _ (List.mem_of_getElem? (i := 38) rfl)) (hw _ (List.mem_of_getElem? (i := 40) rfl)) (hw _ (List.mem_of_getElem? (i := 39) rfl)) (hw _ (List.mem_of_getElem? (i := 3) rfl)) (hw _ (List.mem_of_getElem? (i := 41) rfl)) (by decide) rfl hN4 (rm5 l Z a0 hw [] ob rl T4.heap n0 Zn5 G4b_4) 0 A1_6 [] [] (hb hby at_62) (lenOf own_pd4 rfl) (by decide) (by decide) (by decide) (by decide) rfl (by rw [hml]; rfl) rfl (by show 2 * 0 + _ ≤ _; exact Nat.le_of_eq rfl) rfl ?_
      intro T13 L13 r13 s13 hN13 hV13 hZ13 hown13 X13 q13
      obtain ⟨rfl, M13, e13⟩ := q13
      rw [e13] at hN13
      have N13 := Fr.app N4 M13
      show own_Ends p e below s (own_Q0 Z sa rb h0 n0) room_1.cells room_1.slots (T13.setTop (mkF m 65 #[.val (.int sa), .val (.int rb), .val (.int sgm), .val (.int rl), .val (.ref ob), .val (.int (1 : Int32))] [(.int (if rl < (15 : Int32) then (0 : Int32) else (1 : Int32)))]))
      refine own_up (S' := T13.setTop (mkF m 67 #[.val (.int sa), .val (.int rb), .val (.int sgm), .val (.int rl), .val (.ref ob), .val (.int (1 : Int32))] [(.int (1 : Int32)), (.int (if rl < (15 : Int32) then (0 : Int32) else (1 : Int32)))])) (fun t stp => XS.iload X13.here hx rfl (hb hby at_65) rfl stp) ?_
      have hc67_14 : (if rl < (15 : Int32) then (0 : Int32) else (1 : Int32)) = (1 : Int32) := by rw [if_neg (own_inl_of (by omega))]
      have ihc67_14 : (if rl < (15 : Int32) then (0 : Int32) else (1 : Int32)).toInt = 1 := own_ieq hc67_14
      refine own_up (S' := T13.setTop (mkF m 70 #[.val (.int sa), .val (.int rb), .val (.int sgm), .val (.int rl), .val (.ref ob), .val (.int (1 : Int32))] [])) (fun t stp => XS.icmpNo X13.here hx rfl (hb hby at_67) rfl (XT.ii_ne_f hc67_14) stp) ?_
      refine own_up (S' := T13.setTop (mkF m 71 #[.val (.int sa), .val (.int rb), .val (.int sgm), .val (.int rl), .val (.ref ob), .val (.int (1 : Int32))] [(.int (1 : Int32))])) (fun t stp => XT.iconstV X13.here hx rfl (1 : Int32) (hb hby at_70) rfl stp) ?_
      refine own_up (S' := T13.setTop (mkF m 75 #[.val (.int sa), .val (.int rb), .val (.int sgm), .val (.int rl), .val (.ref ob), .val (.int (1 : Int32))] [(.int (1 : Int32))])) (fun t stp => XS.goto X13.here hx rfl (pc0 := 71) (pc' := 75) rfl (hb hby at_71) (by decide) (by decide) stp) ?_
      refine own_retN X13 hx hlk (t := .boolean) hret (by simp) (z' := (1 : Int32)) rfl (hb hby at_75) hN13 e13 (by decide) (by decide) ?_
      show own_Q0 Z sa rb h0 n0 _ T13.heap _
      rw [e13]
      exact ⟨rfl, N13⟩
set_option maxRecDepth 65536 in
set_option maxHeartbeats 40000000 in
theorem comes_1 {Post : Tables → Env → Array Value → State → Outcome → State → Prop} (hpost : ∀ tb e args s v u, (limb_1_1.after args s (.returned v) u = true ∧ limb_1_2.after args s (.returned v) u = true ∧ True) → ReturnedEndW s (.returned v) u (Jvm.fieldLocs frame_1_writes args s ++ Jvm.arrayLocs frame_1_arrays args s ++ Jvm.staticLocs frame_1_statics s) 16 2176 → Post tb e args s (.returned v) u) :
    ArmFor flags0 classFile x code maxLocals ret World_1 tables_1 room_1 Calls_1 rest_1 Pre_1 Post := by
  intro l hfl _ _ p e ha hc hk s m args below hf hA hF happ hP
  obtain ⟨hcalls, hrest, hpre⟩ := hP
  obtain ⟨-, -, -, hnamed, -, -, -, hat⟩ := (Spec.applies_iff hf).mp happ
  obtain ⟨hg, hn⟩ := and_e (Cond.before_iff.mp (show (Jvm.Cond.and given_1 narrow_1).before args s = true from hpre))
  obtain ⟨g0, k0⟩ := and_e hg
  obtain ⟨g1, k1⟩ := and_e k0
  obtain ⟨w0, w1, rfl⟩ : ∃ w0 w1 : Value, args = #[w0, w1] := by
    have hs : args.size = 2 := by simpa [Cond.value, given_1] using g0
    obtain ⟨L⟩ := args
    match L, hs with
    | [w0, w1], _ => exact ⟨w0, w1, rfl⟩
  have hw := fun d (hd : d ∈ tables_1) => atoms_spec (ws := Jvm.Cond.code x code maxLocals ret :: tables_1) hat d (List.mem_cons_of_mem _ hd)
  obtain ⟨i0, ei0⟩ := is_v g1
  obtain rfl : w0 = (.int i0) := Option.some.inj ei0
  obtain ⟨i1, ei1⟩ := is_v k1
  obtain rfl : w1 = (.int i1) := Option.some.inj ei1
  obtain ⟨n, o, h1, h2, h3, _, L, rfl, ⟨rfl, N⟩, hq⟩ := rm0 l s _ hw tables_1 i0 i1 s.heap s.heap.size (Nat.le_refl _)  p e ha hc hk s m _ below hf ((Spec.applies_iff_loose hf).mp happ).1 ⟨rfl, State.Warmed39.refl s, rfl⟩ trivial
  refine ⟨n, _, h1, h2, h3, hpost _ _ _ _ _ _ ⟨Cond.after_iff.mpr rfl, Cond.after_iff.mpr (eq_i res_at (Term.int_eval (1)) rfl), trivial⟩ ⟨hq.1, hq.2.1, hq.2.2.1, (hq.2.2.2.sift fun y hy => Or.inr (N y hy)).mono (by decide) (by decide)⟩⟩
theorem main_1_1 : Claimed_1_1 := comes_1 fun _ _ _ _ _ _ h hF => ⟨h.1, hF⟩
theorem main_1_2 : Claimed_1_2 := comes_1 fun _ _ _ _ _ _ h hF => ⟨h.2.1, hF⟩
end Jvm.Pilot.@@N@@
namespace Jvm.Pilot.@@N@@
open Jvm Jvm.ClassFile Sem Op Lib Jvm.Free Jvm.Stand Jvm.Pilot.@@N@@.Jvm.D
/-! MADE BY PROGRAM (witnessworld.py) out of the Statement's table words and the real class files: 17 classes; the members and pool entries that the words name. The judged class is class 1, her method 1. -/
namespace start1
open Jvm.ClassFile
def u (s : String) : CpInfo := .utf8 (stringToUtf16 s)
/-- a pool by its gaps: so many unusable entries, then the entry; so many at the end -/
def gap : Nat → List CpInfo → List CpInfo
  | 0, r => r
  | n + 1, r => .unusable :: gap n r
def poolList (es : List (Nat × CpInfo)) (last : Nat) : List CpInfo := es.foldr (fun e r => gap e.1 (e.2 :: r)) (gap last [])
def pool (es : List (Nat × CpInfo)) (last : Nat) : Array CpInfo := ⟨poolList es last⟩
def fileOf (pool : Array CpInfo) (this : Nat) (attrs : Array Attribute := #[]) (ms : Array MethodInfo := #[]) (fl : Nat := 33) (sup : Nat := 0) (ifs : Array Nat := #[]) (fds : Array FieldInfo := #[]) : ClassFile where
  minorVersion := 0
  majorVersion := 65
  constantPool := pool
  accessFlags := fl
  thisClass := this
  superClass := sup
  interfaces := ifs
  fields := fds
  methods := ms
  attributes := attrs
def plain (name : String) (sup : Option ClassId) : Class where
  name := name
  kind := .ordinary
  loader := none
  accessFlags := 33
  super := sup
  interfaces := #[]
  cf := none
  fields := #[]
  methods := #[]
  instanceTypes := #[]
  staticTypes := #[]
  resolved := #[]
  callSites := []
  init := .initialized
  statics := none
  mirror := none

def pool0 : Array CpInfo := pool [(5, u "<init>"), (0, u "()V"), (1, .class_ 10), (1, u "java/lang/Object")] 113

def k0c0 : Code := { maxStack := 0, maxLocals := 1, code := object_method_1_code, exceptionTable := #[], attributes := #[] }
def k0m0 : Method := { name := "<init>", desc := "()V", sig := { parameters := [], returnType := none }, accessFlags := 1, code := some k0c0 }
/-- java/lang/Object -/
def k0 : Class := { plain "java/lang/Object" none with
  accessFlags := 33
  interfaces := #[]
  cf := some (fileOf pool0 8 #[] #[{ accessFlags := 1, nameIndex := 5, descriptorIndex := 6, attributes := #[] }] 33 0 #[] #[])
  fields := #[]
  methods := #[k0m0]
  instanceTypes := #[]
  staticTypes := #[]
  resolved := Array.replicate 124 none
  statics := none }

def pool1 : Array CpInfo := pool [(2, .class_ 4), (1, u "java/lang/Object"), (0, u "<init>"), (0, u "()V"), (0, .integer 2147483647), (0, .class_ 9), (0, u "com/example/escarmouche/escarmouche/rulesets/corporates/Survival"), (0, .methodref 8 11), (0, .nameAndType 5 12), (0, u "(II)V"), (0, .methodref 8 14), (0, .nameAndType 15 16), (0, u "success"), (0, u "()Z"), (0, .class_ 18), (0, u "com/example/escarmouche/escarmouche/rulesets/corporates/SurvivalSuccessPinLaw"), (2, u "law"), (0, u "(II)Z")] 3

def k1m0 : Method := { name := "<init>", desc := "()V", sig := { parameters := [], returnType := none }, accessFlags := 2, code := none }
def k1c1 : Code := { maxStack := 4, maxLocals := 6, code := code, exceptionTable := #[], attributes := #[] }
def k1m1 : Method := { name := "law", desc := "(II)Z", sig := { parameters := [.int, .int], returnType := some .boolean }, accessFlags := 9, code := some k1c1 }
/-- com/example/escarmouche/escarmouche/rulesets/corporates/SurvivalSuccessPinLaw -/
def k1 : Class := { plain "com/example/escarmouche/escarmouche/rulesets/corporates/SurvivalSuccessPinLaw" (some 0) with
  accessFlags := 49
  interfaces := #[]
  cf := some (fileOf pool1 17 #[] #[{ accessFlags := 2, nameIndex := 5, descriptorIndex := 6, attributes := #[] }, { accessFlags := 9, nameIndex := 21, descriptorIndex := 22, attributes := #[] }] 49 2 #[] #[])
  fields := #[]
  methods := #[k1m0, k1m1]
  instanceTypes := #[]
  staticTypes := #[]
  resolved := Array.replicate 26 none
  statics := none }

def pool2 : Array CpInfo := pool [(1, .methodref 2 3), (0, .class_ 4), (0, .nameAndType 5 6), (0, u "java/lang/Object"), (0, u "<init>"), (0, u "()V"), (0, .class_ 8), (0, u "java/lang/Record")] 13

def k2c0 : Code := { maxStack := 1, maxLocals := 1, code := jdk_30_method_1_code, exceptionTable := #[], attributes := #[] }
def k2m0 : Method := { name := "<init>", desc := "()V", sig := { parameters := [], returnType := none }, accessFlags := 4, code := some k2c0 }
/-- java/lang/Record -/
def k2 : Class := { plain "java/lang/Record" (some 0) with
  accessFlags := 1057
  interfaces := #[]
  cf := some (fileOf pool2 7 #[] #[{ accessFlags := 4, nameIndex := 5, descriptorIndex := 6, attributes := #[] }] 1057 2 #[] #[])
  fields := #[]
  methods := #[k2m0]
  instanceTypes := #[]
  staticTypes := #[]
  resolved := Array.replicate 22 none
  statics := none }

def pool3 : Array CpInfo := pool [(1, .methodref 2 3), (0, .class_ 4), (0, .nameAndType 5 6), (0, u "java/lang/Record"), (0, u "<init>"), (0, u "()V"), (0, .methodref 8 9), (0, .class_ 10), (0, .nameAndType 11 12), (0, u "com/example/escarmouche/escarmouche/rulesets/corporates/Turn"), (0, u "requireSegment"), (0, u "(I)V"), (0, .string 14), (0, u "roll"), (2, .methodref 18 19), (0, .class_ 20), (0, .nameAndType 21 22), (0, u "com/example/escarmouche/escarmouche/rulesets/Bounds"), (0, u "requireWithin"), (0, u "(Ljava/lang/String;III)V"), (0, .fieldref 24 25), (0, .class_ 26), (0, .nameAndType 27 28), (0, u "com/example/escarmouche/escarmouche/rulesets/corporates/Survival"), (0, u "segment"), (0, u "I"), (0, .fieldref 24 30), (0, .nameAndType 14 28), (2, u "success"), (0, u "()Z"), (16, u "SUCCESS"), (2, u "(II)V")] 28

def k3c0 : Code := { maxStack := 4, maxLocals := 3, code := prog_38_method_1_code, exceptionTable := #[], attributes := #[] }
def k3m0 : Method := { name := "<init>", desc := "(II)V", sig := { parameters := [.int, .int], returnType := none }, accessFlags := 1, code := some k3c0 }
def k3c1 : Code := { maxStack := 2, maxLocals := 1, code := prog_38_method_2_code, exceptionTable := #[], attributes := #[] }
def k3m1 : Method := { name := "success", desc := "()Z", sig := { parameters := [], returnType := some .boolean }, accessFlags := 1, code := some k3c1 }
/-- com/example/escarmouche/escarmouche/rulesets/corporates/Survival -/
def k3 : Class := { plain "com/example/escarmouche/escarmouche/rulesets/corporates/Survival" (some 2) with
  accessFlags := 49
  interfaces := #[]
  cf := some (fileOf pool3 24 #[] #[{ accessFlags := 1, nameIndex := 5, descriptorIndex := 54, attributes := #[] }, { accessFlags := 1, nameIndex := 33, descriptorIndex := 34, attributes := #[] }] 49 2 #[] #[{ accessFlags := 18, nameIndex := 27, descriptorIndex := 28, attributes := #[] }, { accessFlags := 18, nameIndex := 14, descriptorIndex := 28, attributes := #[] }, { accessFlags := 25, nameIndex := 51, descriptorIndex := 28, attributes := #[] }])
  fields := #[{ name := "segment", type := .int, accessFlags := 18, slot := 0, constantValue := 0 }, { name := "roll", type := .int, accessFlags := 18, slot := 1, constantValue := 0 }, { name := "SUCCESS", type := .int, accessFlags := 25, slot := 0, constantValue := 0 }]
  methods := #[k3m0, k3m1]
  instanceTypes := #[.int, .int]
  staticTypes := #[.int]
  resolved := Array.replicate 83 none
  statics := none }

def pool4 : Array CpInfo := pool [(2, .class_ 4), (1, u "java/lang/Object"), (0, u "<init>"), (0, u "()V"), (1, .class_ 10), (1, u "com/example/escarmouche/escarmouche/rulesets/corporates/Turn"), (0, u "DECLARED_SEGMENTS"), (0, u "Ljava/util/List;"), (8, u "DECLARED_PENALTY"), (6, .string 29), (0, u "segment"), (0, .methodref 31 32), (0, .class_ 33), (0, .nameAndType 34 35), (0, u "com/example/escarmouche/escarmouche/rulesets/Bounds"), (0, u "requireWithin"), (0, u "(Ljava/lang/String;III)V"), (26, u "SEGMENTS"), (0, u "I"), (2, u "MOST_DECLARED"), (10, u "requireSegment"), (0, u "(I)V")] 3

def k4m0 : Method := { name := "<init>", desc := "()V", sig := { parameters := [], returnType := none }, accessFlags := 2, code := none }
def k4c1 : Code := { maxStack := 4, maxLocals := 1, code := prog_42_method_4_code, exceptionTable := #[], attributes := #[] }
def k4m1 : Method := { name := "requireSegment", desc := "(I)V", sig := { parameters := [.int], returnType := none }, accessFlags := 8, code := some k4c1 }
/-- com/example/escarmouche/escarmouche/rulesets/corporates/Turn -/
def k4 : Class := { plain "com/example/escarmouche/escarmouche/rulesets/corporates/Turn" (some 0) with
  accessFlags := 49
  interfaces := #[]
  cf := some (fileOf pool4 8 #[] #[{ accessFlags := 2, nameIndex := 5, descriptorIndex := 6, attributes := #[] }, { accessFlags := 8, nameIndex := 77, descriptorIndex := 78, attributes := #[] }] 49 2 #[] #[{ accessFlags := 25, nameIndex := 62, descriptorIndex := 63, attributes := #[] }, { accessFlags := 25, nameIndex := 66, descriptorIndex := 63, attributes := #[] }, { accessFlags := 26, nameIndex := 11, descriptorIndex := 12, attributes := #[] }, { accessFlags := 26, nameIndex := 21, descriptorIndex := 12, attributes := #[] }])
  fields := #[{ name := "SEGMENTS", type := .int, accessFlags := 25, slot := 0, constantValue := 0 }, { name := "MOST_DECLARED", type := .int, accessFlags := 25, slot := 1, constantValue := 0 }, { name := "DECLARED_SEGMENTS", type := (.object "java/util/List"), accessFlags := 26, slot := 2, constantValue := 0 }, { name := "DECLARED_PENALTY", type := (.object "java/util/List"), accessFlags := 26, slot := 3, constantValue := 0 }]
  methods := #[k4m0, k4m1]
  instanceTypes := #[]
  staticTypes := #[.int, .int, (.object "java/util/List"), (.object "java/util/List")]
  resolved := Array.replicate 82 none
  statics := none }

def pool5 : Array CpInfo := pool [(1, .class_ 2), (0, u "java/io/Serializable"), (0, .class_ 4), (0, u "java/lang/Object")] 2

/-- java/io/Serializable -/
def k5 : Class := { plain "java/io/Serializable" (some 0) with
  accessFlags := 1537
  interfaces := #[]
  cf := some (fileOf pool5 1 #[] #[] 1537 3 #[] #[])
  fields := #[]
  methods := #[]
  instanceTypes := #[]
  staticTypes := #[]
  resolved := Array.replicate 7 none
  statics := none }

def pool6 : Array CpInfo := pool [(1, .class_ 2), (0, u "java/lang/Comparable"), (0, .class_ 4), (0, u "java/lang/Object")] 7

/-- java/lang/Comparable -/
def k6 : Class := { plain "java/lang/Comparable" (some 0) with
  accessFlags := 1537
  interfaces := #[]
  cf := some (fileOf pool6 1 #[] #[] 1537 3 #[] #[])
  fields := #[]
  methods := #[]
  instanceTypes := #[]
  staticTypes := #[]
  resolved := Array.replicate 12 none
  statics := none }

def pool7 : Array CpInfo := pool [(2, .class_ 4), (1, u "java/lang/CharSequence"), (42, .class_ 48), (0, u "java/lang/CharSequence$1CodePointIterator"), (10, .class_ 60), (0, u "java/lang/CharSequence$1CharIterator"), (5, .class_ 67), (0, u "java/lang/Object")] 63

/-- java/lang/CharSequence -/
def k7 : Class := { plain "java/lang/CharSequence" (some 0) with
  accessFlags := 1537
  interfaces := #[]
  cf := some (fileOf pool7 2 #[.nestMembers #[47, 59]] #[] 1537 66 #[] #[])
  fields := #[]
  methods := #[]
  instanceTypes := #[]
  staticTypes := #[]
  resolved := Array.replicate 131 none
  statics := none }

def pool8 : Array CpInfo := pool [(1, .class_ 2), (0, u "java/lang/constant/Constable"), (0, .class_ 4), (0, u "java/lang/Object")] 6

/-- java/lang/constant/Constable -/
def k8 : Class := { plain "java/lang/constant/Constable" (some 0) with
  accessFlags := 1537
  interfaces := #[]
  cf := some (fileOf pool8 1 #[] #[] 1537 3 #[] #[])
  fields := #[]
  methods := #[]
  instanceTypes := #[]
  staticTypes := #[]
  resolved := Array.replicate 11 none
  statics := none }

def pool9 : Array CpInfo := pool [(1, .class_ 2), (0, u "java/lang/constant/ConstantDesc"), (0, .class_ 4), (0, u "java/lang/Object")] 32

/-- java/lang/constant/ConstantDesc -/
def k9 : Class := { plain "java/lang/constant/ConstantDesc" (some 0) with
  accessFlags := 1537
  interfaces := #[]
  cf := some (fileOf pool9 1 #[] #[] 1537 3 #[] #[])
  fields := #[]
  methods := #[]
  instanceTypes := #[]
  staticTypes := #[]
  resolved := Array.replicate 37 none
  statics := none }

def pool10 : Array CpInfo := pool [(2, .class_ 4), (1, u "java/lang/Object"), (0, u "<init>"), (0, u "()V"), (3, .class_ 12), (1, u "java/lang/String"), (0, u "value"), (0, u "[B"), (2, u "coder"), (0, u "B"), (2, u "hash"), (0, u "I"), (2, u "hashIsZero"), (0, u "Z"), (13, u "COMPACT_STRINGS"), (534, .class_ 576), (0, u "java/lang/CharSequence"), (22, u "CASE_INSENSITIVE_ORDER"), (0, u "Ljava/util/Comparator;"), (500, u "serialPersistentFields"), (0, u "[Ljava/io/ObjectStreamField;"), (0, .class_ 1104), (0, u "java/lang/String$CaseInsensitiveComparator"), (1, .class_ 1107), (0, u "java/io/Serializable"), (0, .class_ 1109), (0, u "java/lang/Comparable"), (0, .class_ 1111), (0, u "java/lang/constant/Constable"), (0, .class_ 1113), (0, u "java/lang/constant/ConstantDesc"), (2, u "serialVersionUID"), (0, u "J"), (3, u "REPL"), (0, u "C"), (2, u "LATIN1"), (1, u "UTF16")] 323

def k10m0 : Method := { name := "<init>", desc := "()V", sig := { parameters := [], returnType := none }, accessFlags := 1, code := none }
/-- java/lang/String -/
def k10 : Class := { plain "java/lang/String" (some 0) with
  accessFlags := 49
  interfaces := #[5, 6, 7, 8, 9]
  cf := some (fileOf pool10 10 #[.nestMembers #[1103]] #[{ accessFlags := 1, nameIndex := 5, descriptorIndex := 6, attributes := #[] }] 49 2 #[1106, 1108, 575, 1110, 1112] #[{ accessFlags := 18, nameIndex := 13, descriptorIndex := 14, attributes := #[] }, { accessFlags := 18, nameIndex := 17, descriptorIndex := 18, attributes := #[] }, { accessFlags := 2, nameIndex := 21, descriptorIndex := 22, attributes := #[] }, { accessFlags := 2, nameIndex := 25, descriptorIndex := 26, attributes := #[] }, { accessFlags := 26, nameIndex := 1116, descriptorIndex := 1117, attributes := #[] }, { accessFlags := 24, nameIndex := 40, descriptorIndex := 26, attributes := #[] }, { accessFlags := 26, nameIndex := 1101, descriptorIndex := 1102, attributes := #[] }, { accessFlags := 26, nameIndex := 1121, descriptorIndex := 1122, attributes := #[] }, { accessFlags := 25, nameIndex := 599, descriptorIndex := 600, attributes := #[] }, { accessFlags := 24, nameIndex := 1125, descriptorIndex := 18, attributes := #[] }, { accessFlags := 24, nameIndex := 1127, descriptorIndex := 18, attributes := #[] }])
  fields := #[{ name := "value", type := (.array .byte), accessFlags := 18, slot := 0, constantValue := 0 }, { name := "coder", type := .byte, accessFlags := 18, slot := 1, constantValue := 0 }, { name := "hash", type := .int, accessFlags := 2, slot := 2, constantValue := 0 }, { name := "hashIsZero", type := .boolean, accessFlags := 2, slot := 3, constantValue := 0 }, { name := "serialVersionUID", type := .long, accessFlags := 26, slot := 0, constantValue := 0 }, { name := "COMPACT_STRINGS", type := .boolean, accessFlags := 24, slot := 1, constantValue := 0 }, { name := "serialPersistentFields", type := (.array (.object "java/io/ObjectStreamField")), accessFlags := 26, slot := 2, constantValue := 0 }, { name := "REPL", type := .char, accessFlags := 26, slot := 3, constantValue := 0 }, { name := "CASE_INSENSITIVE_ORDER", type := (.object "java/util/Comparator"), accessFlags := 25, slot := 4, constantValue := 0 }, { name := "LATIN1", type := .byte, accessFlags := 24, slot := 5, constantValue := 0 }, { name := "UTF16", type := .byte, accessFlags := 24, slot := 6, constantValue := 0 }]
  methods := #[k10m0]
  instanceTypes := #[(.array .byte), .byte, .int, .boolean]
  staticTypes := #[.long, .boolean, (.array (.object "java/io/ObjectStreamField")), .char, (.object "java/util/Comparator"), .byte, .byte]
  resolved := Array.replicate 1451 none
  statics := none }

def pool11 : Array CpInfo := pool [(2, .class_ 4), (1, u "java/lang/Object"), (0, u "<init>"), (0, u "()V"), (17, .class_ 25), (0, u "com/example/escarmouche/escarmouche/rulesets/Bounds"), (2, u "requireWithin"), (0, u "(Ljava/lang/String;III)V")] 5

def k11m0 : Method := { name := "<init>", desc := "()V", sig := { parameters := [], returnType := none }, accessFlags := 2, code := none }
def k11c1 : Code := { maxStack := 7, maxLocals := 4, code := prog_17_method_2_code, exceptionTable := #[], attributes := #[] }
def k11m1 : Method := { name := "requireWithin", desc := "(Ljava/lang/String;III)V", sig := { parameters := [(.object "java/lang/String"), .int, .int, .int], returnType := none }, accessFlags := 9, code := some k11c1 }
/-- com/example/escarmouche/escarmouche/rulesets/Bounds -/
def k11 : Class := { plain "com/example/escarmouche/escarmouche/rulesets/Bounds" (some 0) with
  accessFlags := 49
  interfaces := #[]
  cf := some (fileOf pool11 24 #[] #[{ accessFlags := 2, nameIndex := 5, descriptorIndex := 6, attributes := #[] }, { accessFlags := 9, nameIndex := 28, descriptorIndex := 29, attributes := #[] }] 49 2 #[] #[])
  fields := #[]
  methods := #[k11m0, k11m1]
  instanceTypes := #[]
  staticTypes := #[]
  resolved := Array.replicate 35 none
  statics := none }

def pool12 : Array CpInfo := pool [(1, u "java/lang/Cloneable"), (0, .class_ 1), (0, u "java/lang/Object"), (0, .class_ 3)] 3

/-- java/lang/Cloneable -/
def k12 : Class := { plain "java/lang/Cloneable" (some 0) with
  accessFlags := 1537
  interfaces := #[]
  cf := some (fileOf pool12 2 #[] #[] 1537 4 #[] #[])
  fields := #[]
  methods := #[]
  instanceTypes := #[]
  staticTypes := #[]
  resolved := Array.replicate 8 none
  statics := none }

/-- the primitive byte -/
def k13 : Class := { plain "byte" none with kind := .primitive 'B', accessFlags := 0x411 }
/-- [B -/
def k14 : Class := { plain "[B" (some 0) with kind := .array 13 .byte, interfaces := #[12, 5], accessFlags := 1041 }

/-- the primitive int -/
def k15 : Class := { plain "int" none with kind := .primitive 'I', accessFlags := 0x411 }
/-- [I -/
def k16 : Class := { plain "[I" (some 0) with kind := .array 15 .int, interfaces := #[12, 5], accessFlags := 1041 }

def heap : Heap := #[]
def classes : Array Class := #[k0, k1, k2, k3, k4, k5, k6, k7, k8, k9, k10, k11, k12, k13, k14, k15, k16]
def interned : List (Array UInt16 × Addr) := []
def slotsUsed : Nat := 0
def theMethod : MethodId := ⟨1, 1⟩
def args0 : Array Value := #[.int 70, .int 3]
def aboutOver (below : List Frame) : State where
  vm := { classes := classes, interned := interned.toArray }
  heap := heap
  slotsUsed := slotsUsed
  threads := #[{ frames := .invoking theMethod args0 :: below }]
def below0 : List Frame := [.native { method := ⟨0, 0⟩, args := #[] }]
def about1 : State := aboutOver below0
def p0 : Program := .bare "" "" ""
def e0 : Env := launch0.env 0 0 0
theorem w_frames : about1.frames = Frame.invoking theMethod args0 :: below0 := rfl
set_option maxRecDepth 65536 in
theorem w_args : argsFit about1.vm theMethod args0 = true := by decide +kernel
set_option maxRecDepth 65536 in
theorem w_heap : heapFits about1 = true := by decide +kernel
set_option maxRecDepth 65536 in
theorem w_runnable : about1.curStatus? = some .runnable := by decide +kernel
set_option maxRecDepth 65536 in
theorem w_alone : about1.alone = true := by decide +kernel
set_option maxRecDepth 65536 in
theorem w_named : about1.methodNamed? x = some theMethod := by decide +kernel
set_option maxRecDepth 65536 in
theorem w_hears : about1.hears theMethod below0 = true := by decide +kernel
set_option maxRecDepth 65536 in
theorem w_ripe : about1.ripe theMethod args0 below0 = true := by decide +kernel
theorem w_running : about1.status = .running := rfl
set_option maxRecDepth 65536 in
theorem w_room : about1.hasRoom e0.platform room_1 = true :=
  launch0.hasRoom_least _ room_1 (by decide +kernel) (by decide +kernel) (by decide +kernel) (by decide +kernel) (by decide +kernel) (by decide +kernel)
theorem allAtoms_all (ts : List Jvm.Cond) (a : Array Jvm.Value) (st : Jvm.State) : (allAtoms ts).before a st = ts.all (fun c => c.before a st) := by
  induction ts with
  | nil => rfl
  | cons c t ih =>
    show (Jvm.Cond.and c (allAtoms t)).before a st = _
    rw [Jvm.Cond.before_and, ih, List.all_cons]
def words1 : List Jvm.Cond := Jvm.Cond.code x code maxLocals ret :: tables_1
/-- a 'code' word, met by the world's own term for the bytes: nothing is compared byte by byte -/
theorem code_word {y : MethodName} {bytes : ByteArray} {mx : Nat} {rt : Option FieldType} {a : Array Value} {s : State} {m : MethodId} {meth : Method} {c : Code} (h1 : s.methodNamed? y = some m) (h2 : s.vm.method? m = some meth) (h3 : meth.code = some c) (h4 : c.code = bytes)
    (h5 : (c.maxLocals == mx && c.exceptionTable.isEmpty && decide (c.maxStack ≤ mostOperands) && decide (meth.sig.returnType = rt) && !meth.locks && decide (parseMethodDescriptor y.desc = some meth.sig)) = true) : (Jvm.Cond.code y bytes mx rt).before a s = true := by
  simp only [Bool.and_eq_true, beq_iff_eq, Bool.not_eq_true', decide_eq_true_eq] at h5
  obtain ⟨⟨⟨⟨⟨g1, g2⟩, g3⟩, g4⟩, g5⟩, g6⟩ := h5
  simp [Cond.before, Cond.holds, Cond.value, h1, h2, h3, h4, g1, g2, g3, g4, g5, g6]
def isCode : Jvm.Cond → Bool
  | .code _ _ _ _ => true
  | _ => false
theorem all_split {L : List Jvm.Cond} {P : Jvm.Cond → Bool} (h1 : L.all (fun c => isCode c || P c) = true) (h2 : ∀ c ∈ L.filter isCode, P c = true) : L.all P = true := by
  refine List.all_eq_true.mpr fun c hc => ?_
  have h := List.all_eq_true.mp h1 c hc
  rcases Bool.eq_false_or_eq_true (isCode c) with hi | hi
  · exact h2 c (List.mem_filter.mpr ⟨hc, hi⟩)
  · simpa [hi] using h
set_option maxRecDepth 65536 in
theorem w_c0 : (Jvm.Cond.code x code maxLocals ret).before args0 about1 = true := code_word (m := ⟨1, 1⟩) (meth := k1m1) (c := k1c1) (by decide +kernel) rfl rfl rfl (by decide +kernel)
set_option maxRecDepth 65536 in
theorem w_c1 : (Jvm.Cond.code ({ cls := "com/example/escarmouche/escarmouche/rulesets/corporates/Survival", name := "<init>", desc := "(II)V" } : Jvm.MethodName) prog_38_method_1_code (3 : Nat) (Option.none : Option Jvm.ClassFile.FieldType)).before args0 about1 = true := code_word (m := ⟨3, 0⟩) (meth := k3m0) (c := k3c0) (by decide +kernel) rfl rfl rfl (by decide +kernel)
set_option maxRecDepth 65536 in
theorem w_c2 : (Jvm.Cond.code ({ cls := "java/lang/Record", name := "<init>", desc := "()V" } : Jvm.MethodName) jdk_30_method_1_code (1 : Nat) (Option.none : Option Jvm.ClassFile.FieldType)).before args0 about1 = true := code_word (m := ⟨2, 0⟩) (meth := k2m0) (c := k2c0) (by decide +kernel) rfl rfl rfl (by decide +kernel)
set_option maxRecDepth 65536 in
theorem w_c3 : (Jvm.Cond.code ({ cls := "java/lang/Object", name := "<init>", desc := "()V" } : Jvm.MethodName) object_method_1_code (1 : Nat) (Option.none : Option Jvm.ClassFile.FieldType)).before args0 about1 = true := code_word (m := ⟨0, 0⟩) (meth := k0m0) (c := k0c0) (by decide +kernel) rfl rfl rfl (by decide +kernel)
set_option maxRecDepth 65536 in
theorem w_c4 : (Jvm.Cond.code ({ cls := "com/example/escarmouche/escarmouche/rulesets/corporates/Turn", name := "requireSegment", desc := "(I)V" } : Jvm.MethodName) prog_42_method_4_code (1 : Nat) (Option.none : Option Jvm.ClassFile.FieldType)).before args0 about1 = true := code_word (m := ⟨4, 1⟩) (meth := k4m1) (c := k4c1) (by decide +kernel) rfl rfl rfl (by decide +kernel)
set_option maxRecDepth 65536 in
theorem w_c5 : (Jvm.Cond.code ({ cls := "com/example/escarmouche/escarmouche/rulesets/Bounds", name := "requireWithin", desc := "(Ljava/lang/String;III)V" } : Jvm.MethodName) prog_17_method_2_code (4 : Nat) (Option.none : Option Jvm.ClassFile.FieldType)).before args0 about1 = true := code_word (m := ⟨11, 1⟩) (meth := k11m1) (c := k11c1) (by decide +kernel) rfl rfl rfl (by decide +kernel)
set_option maxRecDepth 65536 in
theorem w_c6 : (Jvm.Cond.code ({ cls := "com/example/escarmouche/escarmouche/rulesets/corporates/Survival", name := "success", desc := "()Z" } : Jvm.MethodName) prog_38_method_2_code (1 : Nat) (Option.some Jvm.ClassFile.FieldType.boolean)).before args0 about1 = true := code_word (m := ⟨3, 1⟩) (meth := k3m1) (c := k3c1) (by decide +kernel) rfl rfl rfl (by decide +kernel)
def codes1 : List Jvm.Cond := [Jvm.Cond.code x code maxLocals ret, Jvm.Cond.code ({ cls := "com/example/escarmouche/escarmouche/rulesets/corporates/Survival", name := "<init>", desc := "(II)V" } : Jvm.MethodName) prog_38_method_1_code (3 : Nat) (Option.none : Option Jvm.ClassFile.FieldType), Jvm.Cond.code ({ cls := "java/lang/Record", name := "<init>", desc := "()V" } : Jvm.MethodName) jdk_30_method_1_code (1 : Nat) (Option.none : Option Jvm.ClassFile.FieldType), Jvm.Cond.code ({ cls := "java/lang/Object", name := "<init>", desc := "()V" } : Jvm.MethodName) object_method_1_code (1 : Nat) (Option.none : Option Jvm.ClassFile.FieldType), Jvm.Cond.code ({ cls := "com/example/escarmouche/escarmouche/rulesets/corporates/Turn", name := "requireSegment", desc := "(I)V" } : Jvm.MethodName) prog_42_method_4_code (1 : Nat) (Option.none : Option Jvm.ClassFile.FieldType), Jvm.Cond.code ({ cls := "com/example/escarmouche/escarmouche/rulesets/Bounds", name := "requireWithin", desc := "(Ljava/lang/String;III)V" } : Jvm.MethodName) prog_17_method_2_code (4 : Nat) (Option.none : Option Jvm.ClassFile.FieldType), Jvm.Cond.code ({ cls := "com/example/escarmouche/escarmouche/rulesets/corporates/Survival", name := "success", desc := "()Z" } : Jvm.MethodName) prog_38_method_2_code (1 : Nat) (Option.some Jvm.ClassFile.FieldType.boolean)]
set_option maxRecDepth 65536 in
theorem codes_eq : words1.filter isCode = codes1 := rfl
theorem w_codes : ∀ c ∈ words1.filter isCode, c.before args0 about1 = true := by
  rw [codes_eq]
  intro c hc
  simp only [codes1, List.mem_cons, List.not_mem_nil, or_false] at hc
  rcases hc with rfl | rfl | rfl | rfl | rfl | rfl | rfl
  · exact w_c0
  · exact w_c1
  · exact w_c2
  · exact w_c3
  · exact w_c4
  · exact w_c5
  · exact w_c6
set_option maxRecDepth 65536 in
theorem w_t1 : (words1.take 24).all (fun c => isCode c || c.before args0 about1) = true := by decide +kernel
set_option maxRecDepth 65536 in
theorem w_t2 : (words1.drop 24).all (fun c => isCode c || c.before args0 about1) = true := by decide +kernel
theorem w_tables : (allAtoms (Jvm.Cond.code x code maxLocals ret :: tables_1)).before args0 about1 = true := by
  rw [allAtoms_all]
  show words1.all (fun c => c.before args0 about1) = true
  refine all_split ?_ w_codes
  rw [← List.take_append_drop 24 words1, List.all_append, w_t1, w_t2]
  rfl
set_option maxRecDepth 65536 in
theorem w_case : (Jvm.Cond.and given_1 narrow_1).before args0 about1 = true := by decide +kernel
theorem w_applies : (headSpec (Jvm.Cond.code x code maxLocals ret :: tables_1) room_1).applies x e0.platform about1 = true :=
  (Spec.applies_iff w_frames).mpr ⟨w_running, w_runnable, w_alone, w_named, w_hears, w_ripe, w_room, w_tables⟩
theorem atStart : AtStart classFile x code maxLocals ret World_1 tables_1 room_1 Calls_1 rest_1 Pre_1 launch0 p0 e0 about1 theMethod args0 below0 :=
  ⟨lists_1, trivial, launch0.admits_env _ _ _, launch0.least_env, fairChoices_fair.cas, fairChoices_fair.clock, w_frames, w_args, w_heap, w_applies, trivial, trivial, w_case⟩
end start1
theorem witness_1 : WitnessClaimed_1 := ⟨start1.p0, start1.e0, start1.about1, start1.theMethod, start1.args0, start1.below0, start1.atStart⟩
end Jvm.Pilot.@@N@@
