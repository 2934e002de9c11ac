import JvmDerived
import JvmDerived.Pilot.@@N@@Statement
import JvmDerived.Pilot.@@N@@Code
set_option linter.unusedVariables false
set_option linter.unusedSimpArgs false
namespace Jvm.Pilot.@@N@@
open Jvm Jvm.ClassFile Sem Op Lib Jvm.Free Jvm.Stand Jvm.LawKit Jvm.RoadKit Bundle Jvm.Pilot.@@N@@.Jvm.D
/-! own kit: a walk that goes forward: Go says what is still owed from the state S -/
section OwnGo
variable {p : Program} {l : Launch} {e : Env} {R : Room} {s : State} {m : MethodId} {args : Array Value} {below : List Frame} {meth : Method} {c : Code} {T : State} {locs : List Loc} {cells slots : Nat} {Z : State} {a0 : Array Value} {h : Heap} {G : Outcome → State → Prop} {S S' : State}
def Go (p : Program) (e : Env) (below : List Frame) (G : Outcome → State → Prop) (S : State) : Prop :=
  ∃ s₂ o, Steps p.tables e below S s₂ ∧ s₂.status = .running ∧ Ended s₂ below o ∧ G o s₂
theorem Go.st (h : ∀ t, Steps p.tables e below S' t → Steps p.tables e below S t) (k : Go p e below G S') : Go p e below G S := by
  obtain ⟨s₂, o, h1, h2⟩ := k
  exact ⟨s₂, o, h _ h1, h2⟩
theorem Go.tr (h : Steps p.tables e below S S') (k : Go p e below G S') : Go p e below G S := by
  obtain ⟨s₂, o, h1, h2⟩ := k
  exact ⟨s₂, o, h.trans h1, h2⟩
theorem Go.cast {g g' : JFrame} (q : g = g') (k : Go p e below G (T.setTop g')) : Go p e below G (T.setTop g) := q ▸ k
/-- what a body leaves: Q of the value, the heap and the places written -/
def Left (s : State) (K N : Nat) (Q : Option Value → Heap → List Loc → Prop) : Outcome → State → Prop :=
  fun o t => ∃ v L, o = .returned v ∧ Q v t.heap L ∧ FrameEnd s o t L K N
/-- a body's contract -/
def Pays (l : Launch) (y : MethodName) (bytes : ByteArray) (maxL : Nat) (ret : Option FieldType) (rm : Room) (Z : State) (as' : Array Value) (h0 : Heap) (Q : Option Value → Heap → List Loc → Prop) : Prop :=
  ∀ ws, MetFree l y (head1 (Cond.code y bytes maxL ret :: ws) rm) (fun a U => a = as' ∧ Z.Warmed39 U.vm ∧ U.heap = h0) (fun _ _ _ _ _ => True) (fun _ U o U' => ∃ v L, o = .returned v ∧ Q v U'.heap L ∧ FrameEnd U o U' L rm.cells rm.slots)
theorem Pays.of {y : MethodName} {bytes : ByteArray} {maxL : Nat} {ret : Option FieldType} {rm : Room} {as' : Array Value} {h0 : Heap} {Q : Option Value → Heap → List Loc → Prop} (hx : plainFor y = true)
    (body : ∀ (p : Program) (e : Env) (s : State) (m : MethodId) (below : List Frame) (meth : Method) (c : Code) (T : State), p.tables.exec = Jvm.exec → c.code = bytes → c.maxLocals = maxL → meth.sig.returnType = ret → meth.locks = false → Z.Warmed39 s.vm → s.vm.findClass y.cls = some m.cls → meth.name = y.name →
      T.heap = h0 → Stand p l e rm s m as' below meth c T [] 0 0 → Go p e below (Left s rm.cells rm.slots Q) (T.setTop (entryFrame m as' maxL))) : Pays l y bytes maxL ret rm Z as' h0 Q := by
  intro ws
  refine MetFree.of_bodySF hx hisR ?_
  intro p e s m args below meth c s₁ Bd hml0 hP hK
  obtain ⟨rfl, hZ, hh⟩ := hP
  exact body p e s m below meth c s₁ Bd.exec Bd.bytes hml0 Bd.returns Bd.notSynchronized hZ (findClass_of_methodNamed Bd.named) (name_of_methodNamed Bd.named Bd.method).1 (by rw [← hh, Bd.state]; rfl) (Stand.of_body Bd)
theorem Go.out (X : Stand p l e R s m args below meth c T locs cells slots) {v : Option Value} {K N : Nat} {Q : Option Value → Heap → List Loc → Prop} (hlocks : meth.locks = false) (hv : meth.sig.returnType = none → v = none) (hK : cells ≤ K) (hN : slots ≤ N) (hQ : Q v T.heap locs)
    (st : ∀ fs, (∀ (f : JFrame) (acts : List Action), f.method = m → f.locked = none → f.entered = [] → (doReturn e (T.setTop f) acts v).1 = T.setFrames fs) → Steps p.tables e below S (T.setFrames fs)) : Go p e below (Left s K N Q) S := by
  obtain ⟨fs, hr, hrun, hended, hW, hsame⟩ := X.leave hv hlocks
  exact ⟨_, _, st fs hr, hrun, hended, v, locs, rfl, hQ, ⟨_, rfl⟩, hW, hsame.mono hK hN⟩
theorem ret_b (X : Stand p l e R s m args below meth c T locs cells slots) (hx : p.tables.exec = Jvm.exec) (hlocks : meth.locks = false) (hret : meth.sig.returnType = some .boolean) {pc : Nat} {Ls : Array Slot} {z : Int32} {rest : List Value} {K N : Nat} {Q : Option Value → Heap → List Loc → Prop} (hd : decode c.code pc = .ok (.ireturn, 1)) (hK : cells ≤ K) (hN : slots ≤ N)
    (hQ : Q (some (.int (z &&& 1))) T.heap locs) : Go p e below (Left s K N Q) (T.setTop (mkF m pc Ls (.int z :: rest))) :=
  Go.out X (v := some (.int (z &&& 1))) hlocks (fun h => by rw [hret] at h; cases h) hK hN hQ fun fs hr => retN X hx (t := .boolean) hret (by simp) hd hr
theorem ret_c (X : Stand p l e R s m args below meth c T locs cells slots) (hx : p.tables.exec = Jvm.exec) (hlocks : meth.locks = false) (hret : meth.sig.returnType = some .char) {pc : Nat} {Ls : Array Slot} {z : Int32} {rest : List Value} {K N : Nat} {Q : Option Value → Heap → List Loc → Prop} (hd : decode c.code pc = .ok (.ireturn, 1)) (hK : cells ≤ K) (hN : slots ≤ N)
    (hQ : Q (some (.int (nar .char z))) T.heap locs) : Go p e below (Left s K N Q) (T.setTop (mkF m pc Ls (.int z :: rest))) :=
  Go.out X (v := some (.int (nar .char z))) hlocks (fun h => by rw [hret] at h; cases h) hK hN hQ fun fs hr => retN X hx (t := .char) hret (by simp) hd hr
theorem ret_y (X : Stand p l e R s m args below meth c T locs cells slots) (hx : p.tables.exec = Jvm.exec) (hlocks : meth.locks = false) (hret : meth.sig.returnType = some .byte) {pc : Nat} {Ls : Array Slot} {z : Int32} {rest : List Value} {K N : Nat} {Q : Option Value → Heap → List Loc → Prop} (hd : decode c.code pc = .ok (.ireturn, 1)) (hK : cells ≤ K) (hN : slots ≤ N)
    (hQ : Q (some (.int (nar .byte z))) T.heap locs) : Go p e below (Left s K N Q) (T.setTop (mkF m pc Ls (.int z :: rest))) :=
  Go.out X (v := some (.int (nar .byte z))) hlocks (fun h => by rw [hret] at h; cases h) hK hN hQ fun fs hr => retN X hx (t := .byte) hret (by simp) hd hr
theorem ret_i (X : Stand p l e R s m args below meth c T locs cells slots) (hx : p.tables.exec = Jvm.exec) (hlocks : meth.locks = false) (hret : meth.sig.returnType = some .int) {pc : Nat} {Ls : Array Slot} {z : Int32} {rest : List Value} {K N : Nat} {Q : Option Value → Heap → List Loc → Prop} (hd : decode c.code pc = .ok (.ireturn, 1)) (hK : cells ≤ K) (hN : slots ≤ N)
    (hQ : Q (some (.int z)) T.heap locs) : Go p e below (Left s K N Q) (T.setTop (mkF m pc Ls (.int z :: rest))) :=
  Go.out X (v := some (.int z)) hlocks (fun h => by rw [hret] at h; cases h) hK hN hQ fun fs hr => retOut X hx hret rfl (Or.inl ⟨rfl, Or.inl rfl, z, rfl⟩) hd hr
theorem ret_l (X : Stand p l e R s m args below meth c T locs cells slots) (hx : p.tables.exec = Jvm.exec) (hlocks : meth.locks = false) (hret : meth.sig.returnType = some .long) {pc : Nat} {Ls : Array Slot} {z : Int64} {rest : List Value} {K N : Nat} {Q : Option Value → Heap → List Loc → Prop} (hd : decode c.code pc = .ok (.lreturn, 1)) (hK : cells ≤ K) (hN : slots ≤ N)
    (hQ : Q (some (.long z)) T.heap locs) : Go p e below (Left s K N Q) (T.setTop (mkF m pc Ls (.long z :: rest))) :=
  Go.out X (v := some (.long z)) hlocks (fun h => by rw [hret] at h; cases h) hK hN hQ fun fs hr => retOut X hx hret rfl (Or.inr (Or.inl ⟨rfl, rfl, z, rfl⟩)) hd hr
theorem ret_d (X : Stand p l e R s m args below meth c T locs cells slots) (hx : p.tables.exec = Jvm.exec) (hlocks : meth.locks = false) (hret : meth.sig.returnType = some .double) {pc : Nat} {Ls : Array Slot} {z : UInt64} {rest : List Value} {K N : Nat} {Q : Option Value → Heap → List Loc → Prop} (hd : decode c.code pc = .ok (.dreturn, 1)) (hK : cells ≤ K) (hN : slots ≤ N)
    (hQ : Q (some (.double z)) T.heap locs) : Go p e below (Left s K N Q) (T.setTop (mkF m pc Ls (.double z :: rest))) :=
  Go.out X (v := some (.double z)) hlocks (fun h => by rw [hret] at h; cases h) hK hN hQ fun fs hr => retOut X hx hret rfl (Or.inr (Or.inr (Or.inl ⟨rfl, rfl, z, rfl⟩))) hd hr
theorem ret_a (X : Stand p l e R s m args below meth c T locs cells slots) (hx : p.tables.exec = Jvm.exec) (hlocks : meth.locks = false) {t : FieldType} (hret : meth.sig.returnType = some t) (ht : t.isReference = true) {pc : Nat} {Ls : Array Slot} {v : Value} (hv : v.isRef = true) {rest : List Value} {K N : Nat} {Q : Option Value → Heap → List Loc → Prop} (hd : decode c.code pc = .ok (.areturn, 1)) (hK : cells ≤ K) (hN : slots ≤ N)
    (hQ : Q (some v) T.heap locs) : Go p e below (Left s K N Q) (T.setTop (mkF m pc Ls (v :: rest))) :=
  Go.out X (v := some v) hlocks (fun h => by rw [hret] at h; cases h) hK hN hQ fun fs hr => retOut X hx hret (by rcases ref_cases hv with rfl | ⟨a, rfl⟩ <;> cases t <;> first | rfl | cases ht) (Or.inr (Or.inr (Or.inr (Or.inr ⟨rfl, ht, hv⟩)))) hd hr
theorem ret_v (X : Stand p l e R s m args below meth c T locs cells slots) (hx : p.tables.exec = Jvm.exec) (hlocks : meth.locks = false) (hret : meth.sig.returnType = none) {pc : Nat} {Ls : Array Slot} {K N : Nat} {Q : Option Value → Heap → List Loc → Prop} (hd : decode c.code pc = .ok (.return_, 1)) (hK : cells ≤ K) (hN : slots ≤ N)
    (hQ : Q none T.heap locs) : Go p e below (Left s K N Q) (T.setTop (mkF m pc Ls [])) :=
  Go.out X (v := none) hlocks (fun _ => rfl) hK hN hQ fun fs hr => X.returnOut hx hret hd hr
/-- a call of an instance method, by its contract -/
theorem Go.virt (X : Stand p l e R s m args below meth c T locs cells slots) (hx : p.tables.exec = Jvm.exec) (hZ : Z.Warmed39 s.vm) {own C : String} {index : Nat} {y z : MethodName} (hown : s.vm.findClass own = some m.cls) (wl : (Cond.methodLink own index y).before a0 Z = true) (wd : (Cond.declares y).before a0 Z = true) (nf : NotFace s y)
    (wsel : (Cond.selects C y z).before a0 Z = true) (wi : (Cond.instanceMethod z).before a0 Z = true) {bytes : ByteArray} {maxL : Nat} {ret : Option FieldType} (wc : (Cond.code z bytes maxL ret).before a0 Z = true) (wz : (Cond.initialized z.cls).before a0 Z = true) (hy : y.cls ≠ "java/lang/invoke/MethodHandle" ∧ y.cls ≠ "java/lang/invoke/VarHandle")
    {rm : Room} {Q : Option Value → Heap → List Loc → Prop} {b : Addr} {argsL rest : List Value} (P : Pays l z bytes maxL ret rm Z (.ref b :: argsL).toArray h Q) (eT : T.heap = h) (E : Exa Z h b C) {pc : Nat} {Ls : Array Slot} {st : List Value} (hst : st = argsL.reverse ++ .ref b :: rest) (hsz : Ls.size = c.maxLocals) {ps : List FieldType} {r : Option FieldType} (hpd : parseMethodDescriptor y.desc = some ⟨ps, r⟩) (hlen : argsL.length = ps.length)
    (hd : decode c.code pc = .ok (.invokevirtual index, 3)) (W : Nat) (hW : (rest.map fun v => v.category).sum ≤ W) (hf : rm.frames + 1 ≤ R.frames) (hl : W + (maxL + 11) + rm.locals ≤ R.locals) (hc : cells + rm.cells ≤ R.cells) (hs : slots + rm.slots ≤ R.slots)
    (k : ∀ (v : Option Value) (T' : State) (L : List Loc), Stand p l e R s m args below meth c T' (locs ++ L) (cells + rm.cells) (slots + rm.slots) → Q v T'.heap L → Go p e below G (T'.setTop (mkF m (pc + 3) Ls (v.toList ++ rest)))) : Go p e below G (T.setTop (mkF m pc Ls st)) := by
  obtain ⟨cB, kB, hcB, -, hrecv⟩ := isOf hZ eT E
  obtain ⟨v, _, ⟨T', L', k', n'⟩, -, X', ⟨L, hQ, h1, h2, h3⟩, stp⟩ := X.virtualBack hx hown (mvT hZ wl) (mvT hZ wd) nf (mvT hZ wsel) (mvT hZ wi) hy (backOf (W := W) (P []) hZ wc wz hf hl) hcB hrecv (g := mkF m pc Ls st) rfl hsz (Steps.refl _) (argsL := argsL) (rest := rest) (lenOf hpd hlen) hst (by show 2 * 0 + _ ≤ _; omega) hd (fun _ _ => ⟨rfl, eT, hc, hs⟩)
  dsimp only at X' hQ h1 h2 h3 stp
  subst h1 h2 h3
  exact Go.tr stp (k v T' L X' hQ)
/-- a call of an inherited method through a subclass's name, by its contract -/
theorem Go.up (X : Stand p l e R s m args below meth c T locs cells slots) (hx : p.tables.exec = Jvm.exec) (hZ : Z.Warmed39 s.vm) {own C owner : String} {index : Nat} {xm y : MethodName} (hown : s.vm.findClass own = some m.cls) (wl : (Cond.methodLink own index xm).before a0 Z = true) (wsm : (Cond.sameMethod xm.cls owner xm.name xm.desc).before a0 Z = true)
    (wd : (Cond.declares ⟨owner, xm.name, xm.desc⟩).before a0 Z = true) (wsel : (Cond.selects C xm y).before a0 Z = true) (wi : (Cond.instanceMethod y).before a0 Z = true) {bytes : ByteArray} {maxL : Nat} {ret : Option FieldType} (wc : (Cond.code y bytes maxL ret).before a0 Z = true) (wz : (Cond.initialized y.cls).before a0 Z = true) (hy : owner ≠ "java/lang/invoke/MethodHandle" ∧ owner ≠ "java/lang/invoke/VarHandle")
    {rm : Room} {Q : Option Value → Heap → List Loc → Prop} {b : Addr} {argsL rest : List Value} (P : Pays l y bytes maxL ret rm Z (.ref b :: argsL).toArray h Q) (eT : T.heap = h) (E : Exa Z h b C) {pc : Nat} {Ls : Array Slot} {st : List Value} (hst : st = argsL.reverse ++ .ref b :: rest) (hsz : Ls.size = c.maxLocals) {ps : List FieldType} {r : Option FieldType} (hpd : parseMethodDescriptor xm.desc = some ⟨ps, r⟩) (hlen : argsL.length = ps.length)
    (hd : decode c.code pc = .ok (.invokevirtual index, 3)) (W : Nat) (hW : (rest.map fun v => v.category).sum ≤ W) (hf : rm.frames + 1 ≤ R.frames) (hl : W + (maxL + 11) + rm.locals ≤ R.locals) (hc : cells + rm.cells ≤ R.cells) (hs : slots + rm.slots ≤ R.slots)
    (k : ∀ (v : Option Value) (T' : State) (L : List Loc), Stand p l e R s m args below meth c T' (locs ++ L) (cells + rm.cells) (slots + rm.slots) → Q v T'.heap L → Go p e below G (T'.setTop (mkF m (pc + 3) Ls (v.toList ++ rest)))) : Go p e below G (T.setTop (mkF m pc Ls st)) := by
  obtain ⟨cB, kB, hcB, -, hrecv⟩ := isOf hZ eT E
  obtain ⟨v, _, ⟨T', L', k', n'⟩, -, X', ⟨L, hQ, h1, h2, h3⟩, stp⟩ := X.virtualBackUp hx hown (mvT hZ wl) (mvT hZ wsm) (mvT hZ wd) hy (mvT hZ wsel) (mvT hZ wi) (backOf (W := W) (P []) hZ wc wz hf hl) hcB hrecv (g := mkF m pc Ls st) rfl hsz (Steps.refl _) (argsL := argsL) (rest := rest) (lenOf hpd hlen) hst (by show 2 * 0 + _ ≤ _; omega) hd (fun _ _ => ⟨rfl, eT, hc, hs⟩)
  dsimp only at X' hQ h1 h2 h3 stp
  subst h1 h2 h3
  exact Go.tr stp (k v T' L X' hQ)
/-- a call of a private instance method by invokevirtual, by its contract -/
theorem Go.priv (X : Stand p l e R s m args below meth c T locs cells slots) (hx : p.tables.exec = Jvm.exec) (hZ : Z.Warmed39 s.vm) {own C : String} {index : Nat} {y : MethodName} (hown : s.vm.findClass own = some m.cls) (wl : (Cond.methodLink own index y).before a0 Z = true) (wi : (Cond.instanceMethod y).before a0 Z = true)
    (wsel : (Cond.selects y.cls y y).before a0 Z = true) (wp : (Cond.privateMethod y).before a0 Z = true) {bytes : ByteArray} {maxL : Nat} {ret : Option FieldType} (wc : (Cond.code y bytes maxL ret).before a0 Z = true) (wz : (Cond.initialized y.cls).before a0 Z = true) (hy : y.cls ≠ "java/lang/invoke/MethodHandle" ∧ y.cls ≠ "java/lang/invoke/VarHandle")
    {rm : Room} {Q : Option Value → Heap → List Loc → Prop} {b : Addr} {argsL rest : List Value} (P : Pays l y bytes maxL ret rm Z (.ref b :: argsL).toArray h Q) (eT : T.heap = h) (E : Exa Z h b C) {pc : Nat} {Ls : Array Slot} {st : List Value} (hst : st = argsL.reverse ++ .ref b :: rest) (hsz : Ls.size = c.maxLocals) {ps : List FieldType} {r : Option FieldType} (hpd : parseMethodDescriptor y.desc = some ⟨ps, r⟩) (hlen : argsL.length = ps.length)
    (hd : decode c.code pc = .ok (.invokevirtual index, 3)) (W : Nat) (hW : (rest.map fun v => v.category).sum ≤ W) (hf : rm.frames + 1 ≤ R.frames) (hl : W + (maxL + 11) + rm.locals ≤ R.locals) (hc : cells + rm.cells ≤ R.cells) (hs : slots + rm.slots ≤ R.slots)
    (k : ∀ (v : Option Value) (T' : State) (L : List Loc), Stand p l e R s m args below meth c T' (locs ++ L) (cells + rm.cells) (slots + rm.slots) → Q v T'.heap L → Go p e below G (T'.setTop (mkF m (pc + 3) Ls (v.toList ++ rest)))) : Go p e below G (T.setTop (mkF m pc Ls st)) := by
  obtain ⟨cell, hcell, hobj⟩ := E.cell
  obtain ⟨v, _, ⟨T', L', k', n'⟩, -, X', ⟨L, hQ, h1, h2, h3⟩, stp⟩ := X.privateBack hx hown (mvT hZ wl) (mvT hZ wi) (mvT hZ wsel) (Cond.privateMethod_at (mvP (args := args) hZ wp)) (mvT hZ wc) hy (backOf (W := W) (P []) hZ wc wz hf hl) (g := mkF m pc Ls st) rfl hsz (Steps.refl _) (a := b) (by rw [eT]; exact hcell) hobj (argsL := argsL) (rest := rest) (lenOf hpd hlen) hst (by show 2 * 0 + _ ≤ _; omega) hd (fun _ _ => ⟨rfl, eT, hc, hs⟩)
  dsimp only at X' hQ h1 h2 h3 stp
  subst h1 h2 h3
  exact Go.tr stp (k v T' L X' hQ)
/-- a call of an interface's method, by the contract of the method that it goes to -/
theorem Go.face (X : Stand p l e R s m args below meth c T locs cells slots) (hx : p.tables.exec = Jvm.exec) (hZ : Z.Warmed39 s.vm) {own C : String} {index count : Nat} {xi y : MethodName} (hown : s.vm.findClass own = some m.cls) (wl : (Cond.methodLink own index xi).before a0 Z = true) (wd : (Cond.declares xi).before a0 Z = true)
    (wf : (Cond.interfaceMethod xi.cls xi.cls xi.name xi.desc).before args s = true) (wsel : (Cond.selects C xi y).before a0 Z = true) (wi : (Cond.instanceMethod y).before a0 Z = true) (wpub : (Cond.publicMethod y).before a0 Z = true) (wun : (Cond.unhidden C xi.name xi.desc).before a0 Z = true) (wca : (Cond.castable C xi.cls).before a0 Z = true)
    {bytes : ByteArray} {maxL : Nat} {ret : Option FieldType} (wc : (Cond.code y bytes maxL ret).before a0 Z = true) (wz : (Cond.initialized y.cls).before a0 Z = true) (hy : xi.cls ≠ "java/lang/invoke/MethodHandle" ∧ xi.cls ≠ "java/lang/invoke/VarHandle")
    {rm : Room} {Q : Option Value → Heap → List Loc → Prop} {b : Addr} {argsL rest : List Value} (P : Pays l y bytes maxL ret rm Z (.ref b :: argsL).toArray h Q) (eT : T.heap = h) (E : Exa Z h b C) {pc : Nat} {Ls : Array Slot} {st : List Value} (hst : st = argsL.reverse ++ .ref b :: rest) (hsz : Ls.size = c.maxLocals) {ps : List FieldType} {r : Option FieldType} (hpd : parseMethodDescriptor xi.desc = some ⟨ps, r⟩) (hlen : argsL.length = ps.length)
    (hd : decode c.code pc = .ok (.invokeinterface index count, 5)) (W : Nat) (hW : (rest.map fun v => v.category).sum ≤ W) (hf : rm.frames + 1 ≤ R.frames) (hl : W + (maxL + 11) + rm.locals ≤ R.locals) (hc : cells + rm.cells ≤ R.cells) (hs : slots + rm.slots ≤ R.slots)
    (k : ∀ (v : Option Value) (T' : State) (L : List Loc), Stand p l e R s m args below meth c T' (locs ++ L) (cells + rm.cells) (slots + rm.slots) → Q v T'.heap L → Go p e below G (T'.setTop (mkF m (pc + 5) Ls (v.toList ++ rest)))) : Go p e below G (T.setTop (mkF m pc Ls st)) := by
  obtain ⟨cB, kB, hcB, hkB, hrecv⟩ := isOf hZ eT E
  obtain ⟨v, _, ⟨T', L', k', n'⟩, -, X', ⟨L, hQ, h1, h2, h3⟩, stp⟩ := X.interfaceBack hx hown (mvT hZ wl) (mvT hZ wd) wf (mvT hZ wsel) (mvT hZ wi) (mvT hZ wpub) (mvT hZ wun) (mvT hZ wca) hy (backOf (W := W) (P []) hZ wc wz hf hl) hcB hkB hrecv (g := mkF m pc Ls st) rfl hsz (Steps.refl _) (argsL := argsL) (rest := rest) (lenOf hpd hlen) hst (by show 2 * 0 + _ ≤ _; omega) hd (fun _ _ => ⟨rfl, eT, hc, hs⟩)
  dsimp only at X' hQ h1 h2 h3 stp
  subst h1 h2 h3
  exact Go.tr stp (k v T' L X' hQ)
/-- a call of a constructor, by its contract -/
theorem Go.init (X : Stand p l e R s m args below meth c T locs cells slots) (hx : p.tables.exec = Jvm.exec) (hZ : Z.Warmed39 s.vm) {own : String} {index : Nat} {y : MethodName} (hy1 : y.name = "<init>") (hown : s.vm.findClass own = some m.cls) (wl : (Cond.methodLink own index y).before a0 Z = true)
    (wi : (Cond.instanceMethod y).before a0 Z = true) {bytes : ByteArray} {maxL : Nat} (wc : (Cond.code y bytes maxL none).before a0 Z = true) (wz : (Cond.initialized y.cls).before a0 Z = true) (hy : y.cls ≠ "java/lang/invoke/MethodHandle" ∧ y.cls ≠ "java/lang/invoke/VarHandle")
    {rm : Room} {Q : Option Value → Heap → List Loc → Prop} {b : Addr} {argsL rest : List Value} (P : Pays l y bytes maxL none rm Z (.ref b :: argsL).toArray h Q) (eT : T.heap = h) {pc : Nat} {Ls : Array Slot} {st : List Value} (hst : st = argsL.reverse ++ .ref b :: rest) (hsz : Ls.size = c.maxLocals) {ps : List FieldType} {r : Option FieldType} (hpd : parseMethodDescriptor y.desc = some ⟨ps, r⟩) (hlen : argsL.length = ps.length)
    (hd : decode c.code pc = .ok (.invokespecial index, 3)) (W : Nat) (hW : (rest.map fun v => v.category).sum ≤ W) (hf : rm.frames + 1 ≤ R.frames) (hl : W + (maxL + 11) + rm.locals ≤ R.locals) (hc : cells + rm.cells ≤ R.cells) (hs : slots + rm.slots ≤ R.slots)
    (k : ∀ (v : Option Value) (T' : State) (L : List Loc), Stand p l e R s m args below meth c T' (locs ++ L) (cells + rm.cells) (slots + rm.slots) → Q v T'.heap L → Go p e below G (T'.setTop (mkF m (pc + 3) Ls (v.toList ++ rest)))) : Go p e below G (T.setTop (mkF m pc Ls st)) := by
  obtain ⟨v, _, ⟨T', L', k', n'⟩, -, X', ⟨L, hQ, h1, h2, h3⟩, stp⟩ := X.specialBack hx hy1 hown (mvT hZ wl) (mvT hZ wi) (mvT hZ wc) hy (backOf (W := W) (P []) hZ wc wz hf hl) (g := mkF m pc Ls st) rfl hsz (Steps.refl _) (a := b) (argsL := argsL) (rest := rest) (lenOf hpd hlen) hst (by show 2 * 0 + _ ≤ _; omega) hd (fun _ _ => ⟨rfl, eT, hc, hs⟩)
  dsimp only at X' hQ h1 h2 h3 stp
  subst h1 h2 h3
  exact Go.tr stp (k v T' L X' hQ)
/-- a call of a static method, by its contract -/
theorem Go.stat (X : Stand p l e R s m args below meth c T locs cells slots) (hx : p.tables.exec = Jvm.exec) (hZ : Z.Warmed39 s.vm) {own : String} {index : Nat} {y : MethodName} (hown : s.vm.findClass own = some m.cls) (wl : (Cond.methodLink own index y).before a0 Z = true)
    (wst : (Cond.static y).before a0 Z = true) (wz : (Cond.initialized y.cls).before a0 Z = true) {bytes : ByteArray} {maxL : Nat} {ret : Option FieldType} (wc : (Cond.code y bytes maxL ret).before a0 Z = true) (hy : y.cls ≠ "java/lang/invoke/MethodHandle" ∧ y.cls ≠ "java/lang/invoke/VarHandle")
    {rm : Room} {Q : Option Value → Heap → List Loc → Prop} {argsL rest : List Value} (P : Pays l y bytes maxL ret rm Z argsL.toArray h Q) (eT : T.heap = h) {pc : Nat} {Ls : Array Slot} {st : List Value} (hst : st = argsL.reverse ++ rest) (hsz : Ls.size = c.maxLocals) {ps : List FieldType} {r : Option FieldType} (hpd : parseMethodDescriptor y.desc = some ⟨ps, r⟩) (hlen : argsL.length = ps.length)
    (hd : decode c.code pc = .ok (.invokestatic index, 3)) (W : Nat) (hW : (rest.map fun v => v.category).sum ≤ W) (hf : rm.frames + 1 ≤ R.frames) (hl : W + (maxL + 11) + rm.locals ≤ R.locals) (hc : cells + rm.cells ≤ R.cells) (hs : slots + rm.slots ≤ R.slots)
    (k : ∀ (v : Option Value) (T' : State) (L : List Loc), Stand p l e R s m args below meth c T' (locs ++ L) (cells + rm.cells) (slots + rm.slots) → Q v T'.heap L → Go p e below G (T'.setTop (mkF m (pc + 3) Ls (v.toList ++ rest)))) : Go p e below G (T.setTop (mkF m pc Ls st)) := by
  obtain ⟨mk, hnamed⟩ := Cond.named_of_code (mvT (args := args) hZ wc)
  obtain ⟨methM, cM, hmeth, hcode, -, -, -, -, -, hsig⟩ := Cond.code_spec hnamed (mvT (args := args) hZ wc)
  obtain ⟨v, _, ⟨T', L', k', n'⟩, -, X', ⟨L, hQ, h1, h2, h3⟩, stp⟩ := X.staticBack hx hown (mvT hZ wl) (mvT hZ wst) (mvT hZ wz) hnamed hmeth hsig hy (backOf (W := W) (P []) hZ wc wz hf hl) (g := mkF m pc Ls st) rfl hsz (Steps.refl _) (argsL := argsL) (rest := rest) (lenOf hpd hlen) hst (by show 2 * 0 + _ ≤ _; omega) hd (fun _ _ => ⟨rfl, eT, hc, hs⟩)
  dsimp only at X' hQ h1 h2 h3 stp
  subst h1 h2 h3
  exact Go.tr stp (k v T' L X' hQ)
theorem own_alen (X : Stand p l e R s m args below meth c T locs cells slots) (hx : p.tables.exec = Jvm.exec) (hZ : Z.Warmed39 s.vm) (eT : T.heap = h) {a : Addr} {cl : Cell} {ty : FieldType} (A : Arr Z h a cl ty) {z : Int32} (q : cl.slots.size.toInt32 = z) {pc : Nat} {Ls : Array Slot} {st rest : List Value} (hst : st = .ref a :: rest)
    (hd : decode c.code pc = .ok (.arraylength, 1)) (target : State) (k : Steps p.tables e below (T.setTop (mkF m (pc + 1) Ls (.int z :: rest))) target) : Steps p.tables e below (T.setTop (mkF m pc Ls st)) target :=
  X.arraylength hx (by rw [eT]; exact A.1) (State.isArrayOf_alike hZ.alike A.2.1) (g := mkF m pc Ls st) rfl hst hd target (by rw [q]; exact k)
def ObjAt (h : Heap) (x : Addr) : Prop := ∃ cell : Cell, h[x]? = some cell ∧ cell.vm.isStatics = false
theorem own_obj_exa {x : Addr} {C : String} (F : Exa Z h x C) : ObjAt h x := by
  obtain ⟨c1, _, h1, _, _, h4, _⟩ := F
  exact ⟨c1, h1, h4⟩
theorem own_obj_arv {x : Addr} {k : ClassId} {ty : FieldType} {n : Int32} {vs : List Value} {d : Value} (F : Arv Z h x k ty n vs d) : ObjAt h x := by
  obtain ⟨c1, A, _⟩ := F
  exact ⟨c1, A.1, A.plain⟩
theorem own_sta_keep {h' : Heap} {C n d : String} {v : Value} {ws : List Addr} (F : Sta Z h C n d v) (K : Keep h h' ws) (hws : ∀ x ∈ ws, ObjAt h x) : Sta Z h' C n d v := by
  obtain ⟨cf, i, k, f, st, cell, h1, h2, h3, h4, h5, h6, h7⟩ := F
  refine ⟨cf, i, k, f, st, cell, h1, h2, h3, h4, K.2.1 _ _ h5 fun q => ?_, h6, h7⟩
  obtain ⟨c1, g1, g2⟩ := hws _ q
  cases h5.symm.trans g1
  rw [h6] at g2
  cases g2
theorem own_entry {n : Nat} {Ls : Array Slot} (h : Jvm.Sym.laidSlots args.toList ++ List.replicate (n - (Jvm.Sym.laidSlots args.toList).length) .unset = Ls.toList) : entryFrame m args n = mkF m 0 Ls [] := by
  have q : argsToLocals args n = Ls := Array.toList_inj.mp (by rw [Jvm.Sym.argsToLocals_toList]; exact h)
  unfold entryFrame
  rw [q]
theorem own_eqI {first : State} {o : Option Outcome} {idx : List Nat} {a b : Term} {x y : Int32} (ha : a.eval args first o idx s = some (.int x)) (hb : b.eval args first o idx s = some (.int y)) : (Jvm.Cond.eq a b).value args first o s idx = some (decide (x = y)) := by simp [Cond.value, ha, hb]
theorem own_nar_ref {t : FieldType} {v : Value} (hv : v.isRef = true) : narrow t v = v := by
  rcases ref_cases hv with rfl | ⟨a, rfl⟩ <;> cases t <;> rfl
theorem own_fit_ref {t : FieldType} {v : Value} (hv : v.isRef = true) (ht : t.isReference = true := by rfl) : fits t v = true := by
  rcases ref_cases hv with rfl | ⟨a, rfl⟩ <;> cases t <;> first | rfl | cases ht
end OwnGo
/-! own laws on doubles: exact quotients of whole numbers, and eighths -/
section OwnFloat
open Jvm.FP Jvm.FP.Core
theorem own_whole_quot {i j : Int} {x y : Datum} (hx : Whole (i * j) x) (hy : Whole j y) (hj : j ≠ 0) (hi : i.natAbs ≤ 2 ^ 53) : Whole i (quotient b64 x y) := by
  cases x with
  | nan => exact hx.elim
  | inf => exact hx.elim
  | fin s c q =>
  cases y with
  | nan => exact hy.elim
  | inf => exact hy.elim
  | fin t d r =>
    have hd : d ≠ 0 := fun h => hj ((whole_zero hy).mp h)
    have e : quotient b64 (.fin s c q) (.fin t d r) = roundRatio b64 (s != t) c d (q - r) := by simp [quotient, hd]
    have n1 := whole_natAbs hx
    have n2 := whole_natAbs hy
    have e2 : roundRatio b64 (s != t) c d (q - r) = roundRatio b64 (s != t) i.natAbs 1 0 := by
      refine roundRatio_congr (by omega) (by decide) ?_
      rw [Int.natAbs_mul] at n1
      have p1 := Nat.two_pow_pos (-q).toNat
      have p2 := Nat.two_pow_pos (-r).toNat
      have p3 := Nat.two_pow_pos (-(q - r)).toNat
      have hz : (q - r - 0).toNat = (q - r).toNat := by omega
      have hz2 : (0 - (q - r)).toNat = (-(q - r)).toNat := by omega
      rw [hz, hz2, Nat.mul_one]
      refine Nat.eq_of_mul_eq_mul_right (Nat.mul_pos (Nat.mul_pos p1 p2) (Nat.mul_pos (Nat.two_pow_pos q.toNat) (Nat.two_pow_pos r.toNat))) ?_
      have hx' : (q - r).toNat + ((-q).toNat + r.toNat) = (-(q - r)).toNat + (q.toNat + (-r).toNat) := by omega
      have f1 : 2 ^ (q - r).toNat * (2 ^ (-q).toNat * 2 ^ r.toNat) = 2 ^ (-(q - r)).toNat * (2 ^ q.toNat * 2 ^ (-r).toNat) := by
        rw [← Nat.pow_add, ← Nat.pow_add, ← Nat.pow_add, ← Nat.pow_add, hx']
      calc c * 2 ^ (q - r).toNat * (2 ^ (-q).toNat * 2 ^ (-r).toNat * (2 ^ q.toNat * 2 ^ r.toNat))
          = (c * 2 ^ q.toNat) * 2 ^ (-r).toNat * (2 ^ (q - r).toNat * (2 ^ (-q).toNat * 2 ^ r.toNat)) := by ac_rfl
        _ = (i.natAbs * j.natAbs * 2 ^ (-q).toNat) * 2 ^ (-r).toNat * (2 ^ (-(q - r)).toNat * (2 ^ q.toNat * 2 ^ (-r).toNat)) := by rw [n1, f1]
        _ = i.natAbs * (j.natAbs * 2 ^ (-r).toNat) * 2 ^ (-(q - r)).toNat * (2 ^ (-q).toNat * 2 ^ (-r).toNat * 2 ^ q.toNat) := by ac_rfl
        _ = i.natAbs * (d * 2 ^ r.toNat) * 2 ^ (-(q - r)).toNat * (2 ^ (-q).toNat * 2 ^ (-r).toNat * 2 ^ q.toNat) := by rw [← n2]
        _ = i.natAbs * d * 2 ^ (-(q - r)).toNat * (2 ^ (-q).toNat * 2 ^ (-r).toNat * (2 ^ q.toNat * 2 ^ r.toNat)) := by ac_rfl
    rw [e, e2]
    have w : Whole i (.fin (s != t) i.natAbs 0) := by
      show signed (s != t) (i.natAbs * 1) = i * ((1 : Nat) : Int)
      rw [Nat.mul_one]
      by_cases h0 : i = 0
      · subst h0; simp [signed]
      · have s1 := whole_sign hx (Int.mul_ne_zero h0 hj)
        have s2 := whole_sign hy hj
        have k : (s != t) = decide (i < 0) := by
          rw [s1, s2]
          rcases Int.lt_or_gt_of_ne hj with hj' | hj' <;> rcases Int.lt_or_gt_of_ne h0 with hi' | hi'
          · have := Int.mul_pos_of_neg_of_neg hi' hj'; simp [hj', hi', show ¬ i * j < 0 by omega]
          · have := Int.mul_neg_of_pos_of_neg hi' hj'; simp [hj', this, show ¬ i < 0 by omega]
          · have := Int.mul_neg_of_neg_of_pos hi' hj'; simp [hi', this, show ¬ j < 0 by omega]
          · have := Int.mul_pos hi' hj'; simp [show ¬ i * j < 0 by omega, show ¬ j < 0 by omega, show ¬ i < 0 by omega]
        rw [k]
        unfold signed
        by_cases h : i < 0 <;> simp [h] <;> omega
    have := whole_round good_b64 wide_b64 (show i.natAbs ≤ 2 ^ b64.p from hi) w
    exact this
theorem own_ddiv_int {i j : Int} {a b : UInt64} (ha : DInt (i * j) a) (hb : DInt j b) (hj : j ≠ 0) (hi : i.natAbs ≤ 2 ^ 53) : DInt i (FP.Core.ddiv a b) := by
  unfold DInt
  rw [val64_ddiv]
  exact own_whole_quot ha hb hj hi
/-- eight times the datum -/
def own_sh : Datum → Datum
  | .nan => .nan
  | .inf s => .inf s
  | .fin s c q => .fin s c (q + 3)
theorem own_round8 {k : Int} {z : Datum} (h : Whole k (own_sh z)) (hk : k.natAbs ≤ 2 ^ 53) : Whole k (own_sh (round b64 z)) := by
  cases z with
  | nan => exact h.elim
  | inf => exact h.elim
  | fin s c q =>
    have h' : Whole k (.fin s c (q + 3)) := h
    by_cases k0 : k = 0
    · have c0 := (whole_zero h').mpr k0
      subst c0
      show Whole k (own_sh (roundRatio b64 s 0 1 q))
      have : roundRatio b64 s 0 1 q = .fin s 0 b64.qmin := by simp [roundRatio]
      rw [this, k0]
      show signed s (0 * _) = 0 * _
      simp [signed]
    · obtain ⟨c', q', hfit, hv⟩ := natFit good_b64 wide_b64 s (show k.natAbs ≤ 2 ^ b64.p from hk)
      have n1 := whole_natAbs h'
      have hq : b64.qmin + 3 ≤ q' := by
        obtain ⟨f1, f2, f3, f4⟩ := hfit
        rcases f4 with f4 | f4
        · exfalso
          have e1 : b64.qmin = -1074 := by decide
          rw [f4, e1] at hv
          have e2 : (0 - (-1074 : Int)).toNat = 1074 := by decide
          have e3 : ((-1074 : Int) - 0).toNat = 0 := by decide
          rw [e2, e3] at hv
          have e4 : b64.p = 53 := rfl
          rw [e4] at f1
          have : 1 ≤ k.natAbs := by omega
          have l1 : 2 ^ 1074 ≤ k.natAbs * 2 ^ 1074 := Nat.le_mul_of_pos_left _ (by omega)
          have l2 : (2 : Nat) ^ 53 ≤ 2 ^ 1074 := Nat.pow_le_pow_right (by decide) (by decide)
          simp only [Nat.mul_one, Nat.pow_zero] at hv
          omega
        · have e1 : b64.qmin = -1074 := by decide
          have e5 : b64.tails = 2 ^ 52 := rfl
          rw [e1]
          by_cases hh : -1071 ≤ q'
          · omega
          · exfalso
            have e2 : (q' - 0).toNat = 0 := by omega
            have e3 : 1072 ≤ (0 - q').toNat := by omega
            rw [e2] at hv
            have e4 : b64.p = 53 := rfl
            rw [e4] at f1
            have l1 : 2 ^ (0 - q').toNat ≤ k.natAbs * 2 ^ (0 - q').toNat := Nat.le_mul_of_pos_left _ (by omega)
            have l2 : (2 : Nat) ^ 53 ≤ 2 ^ (0 - q').toNat := Nat.pow_le_pow_right (by decide) (by omega)
            simp only [Nat.mul_one, Nat.pow_zero] at hv
            omega
      have hfit' : Jvm.FP.Core.fits b64 (.fin s c' (q' - 3)) := by
        obtain ⟨f1, f2, f3, f4⟩ := hfit
        refine ⟨f1, by omega, by omega, Or.inr ?_⟩
        rcases f4 with f4 | f4
        · omega
        · exact f4
      have e : round b64 (.fin s c q) = .fin s c' (q' - 3) := by
        show roundRatio b64 s c 1 q = _
        refine roundRatio_exact good_b64 (by decide) hfit' ?_
        have p1 := Nat.two_pow_pos (-(q + 3)).toNat
        have p2 := Nat.two_pow_pos (0 - q').toNat
        have p3 := Nat.two_pow_pos (q + 3).toNat
        rw [Nat.mul_one] at hv ⊢
        refine Nat.eq_of_mul_eq_mul_right (Nat.mul_pos (Nat.mul_pos p1 p2) p3) ?_
        have hx' : (q - (q' - 3)).toNat + ((-(q + 3)).toNat + (q' - 0).toNat) = (q' - 3 - q).toNat + ((q + 3).toNat + (0 - q').toNat) := by omega
        have f1 : 2 ^ (q - (q' - 3)).toNat * (2 ^ (-(q + 3)).toNat * 2 ^ (q' - 0).toNat) = 2 ^ (q' - 3 - q).toNat * (2 ^ (q + 3).toNat * 2 ^ (0 - q').toNat) := by
          rw [← Nat.pow_add, ← Nat.pow_add, ← Nat.pow_add, ← Nat.pow_add, hx']
        have p4 := Nat.two_pow_pos (q' - 0).toNat
        refine Nat.eq_of_mul_eq_mul_right p4 ?_
        calc c * 2 ^ (q - (q' - 3)).toNat * (2 ^ (-(q + 3)).toNat * 2 ^ (0 - q').toNat * 2 ^ (q + 3).toNat) * 2 ^ (q' - 0).toNat
            = (c * 2 ^ (q + 3).toNat) * 2 ^ (0 - q').toNat * (2 ^ (q - (q' - 3)).toNat * (2 ^ (-(q + 3)).toNat * 2 ^ (q' - 0).toNat)) := by ac_rfl
          _ = (k.natAbs * 2 ^ (-(q + 3)).toNat) * 2 ^ (0 - q').toNat * (2 ^ (q' - 3 - q).toNat * (2 ^ (q + 3).toNat * 2 ^ (0 - q').toNat)) := by rw [n1, f1]
          _ = (k.natAbs * 2 ^ (0 - q').toNat) * 2 ^ (q' - 3 - q).toNat * (2 ^ (-(q + 3)).toNat * 2 ^ (0 - q').toNat * 2 ^ (q + 3).toNat) := by ac_rfl
          _ = (c' * 2 ^ (q' - 0).toNat) * 2 ^ (q' - 3 - q).toNat * (2 ^ (-(q + 3)).toNat * 2 ^ (0 - q').toNat * 2 ^ (q + 3).toNat) := by rw [hv]
          _ = c' * 2 ^ (q' - 3 - q).toNat * (2 ^ (-(q + 3)).toNat * 2 ^ (0 - q').toNat * 2 ^ (q + 3).toNat) * 2 ^ (q' - 0).toNat := by ac_rfl
      rw [e]
      show Whole k (.fin s c' (q' - 3 + 3))
      rw [show q' - 3 + 3 = q' by omega]
      show signed s (c' * 2 ^ q'.toNat) = k * ((2 ^ (-q').toNat : Nat) : Int)
      rw [show (0 - q').toNat = (-q').toNat by omega, show (q' - 0).toNat = q'.toNat by omega, Nat.mul_one] at hv
      rw [← hv, signed_mul]
      congr 1
      rw [whole_sign h' k0]
      unfold signed
      by_cases hh : k < 0 <;> simp [hh] <;> omega
/-- a is i / 8 -/
def Own8 (i : Int) (a : UInt64) : Prop := Whole i (own_sh (val64 a))
theorem own_val8 : val64 (4620693217682128896 : UInt64) = .fin false (2 ^ 52) (-49) := by decide +kernel
theorem own_div8 {i : Int} {a : UInt64} (ha : DInt i a) (hi : i.natAbs ≤ 2 ^ 53) : Own8 i (FP.Core.ddiv a (4620693217682128896 : UInt64)) := by
  unfold Own8
  rw [val64_ddiv, own_val8]
  unfold DInt at ha
  cases hv : val64 a with
  | nan => rw [hv] at ha; exact ha.elim
  | inf => rw [hv] at ha; exact ha.elim
  | fin s c q =>
    rw [hv] at ha
    have e : quotient b64 (.fin s c q) (.fin false (2 ^ 52) (-49)) = round b64 (.fin s c (q - 3)) := by
      have : quotient b64 (.fin s c q) (.fin false (2 ^ 52) (-49)) = roundRatio b64 (s != false) c (2 ^ 52) (q - (-49)) := by simp [quotient]
      rw [this]
      show _ = roundRatio b64 s c 1 (q - 3)
      rw [show (s != false) = s by cases s <;> rfl]
      refine roundRatio_congr (by decide) (by decide) ?_
      rw [show (q - -49 - (q - 3)).toNat = 52 by omega, show (q - 3 - (q - -49)).toNat = 0 by omega]
      omega
    rw [e]
    refine own_round8 ?_ hi
    show Whole i (.fin s c (q - 3 + 3))
    rw [show q - 3 + 3 = q by omega]
    exact ha
theorem own_mul8 {i j : Int} {a b : UInt64} (ha : DInt i a) (hb : Own8 j b) (h : (i * j).natAbs ≤ 2 ^ 53) : Own8 (i * j) (FP.Core.dmul a b) := by
  unfold Own8 at hb ⊢
  unfold DInt at ha
  rw [val64_dmul]
  refine own_round8 ?_ h
  cases hv : val64 a with
  | nan => rw [hv] at ha; exact ha.elim
  | inf => rw [hv] at ha; exact ha.elim
  | fin s c q =>
    cases hw : val64 b with
    | nan => rw [hw] at hb; exact hb.elim
    | inf => rw [hw] at hb; exact hb.elim
    | fin t d r =>
      rw [hv] at ha
      rw [hw] at hb
      have := whole_product ha (show Whole j (.fin t d (r + 3)) from hb)
      show Whole (i * j) (.fin (s != t) (c * d) (q + r + 3))
      rw [show q + r + 3 = q + (r + 3) by omega]
      exact this
theorem own_cmp8 {i : Int} {a b : UInt64} (ha : Own8 i a) (hb : Own8 i b) : FP.Core.dcmp a b = some .eq := by
  unfold Own8 at ha hb
  show order (val64 a) (val64 b) = some .eq
  cases hv : val64 a with
  | nan => rw [hv] at ha; exact ha.elim
  | inf => rw [hv] at ha; exact ha.elim
  | fin s c q =>
    cases hw : val64 b with
    | nan => rw [hw] at hb; exact hb.elim
    | inf => rw [hw] at hb; exact hb.elim
    | fin t d r =>
      rw [hv] at ha
      rw [hw] at hb
      have := order_whole (show Whole i (.fin s c (q + 3)) from ha) (show Whole i (.fin t d (r + 3)) from hb)
      have e : order (.fin s c q) (.fin t d r) = order (.fin s c (q + 3)) (.fin t d (r + 3)) := by
        have m : min (q + 3) (r + 3) = min q r + 3 := by omega
        simp only [order, inUnits, m]
        rw [show (q + 3 - (min q r + 3)).toNat = (q - min q r).toNat by omega, show (r + 3 - (min q r + 3)).toNat = (r - min q r).toNat by omega]
      rw [e, this, compare_self_int]
theorem own_dint_eq {i : Int} {a b : UInt64} (ha : DInt i a) (hb : DInt i b) (o : CmpOp) : cmpValue (FP.dcmp a b) o = 0 := by
  have : FP.dcmp a b = some .eq := (dcmp_int ha hb).trans (by rw [compare_self_int])
  rw [this]; rfl
theorem own_8_eq {i : Int} {a b : UInt64} (ha : Own8 i a) (hb : Own8 i b) (o : CmpOp) : cmpValue (FP.dcmp a b) o = 0 := by
  have : FP.dcmp a b = some .eq := own_cmp8 ha hb
  rw [this]; rfl
theorem own_dint_nn {i : Int} {a : UInt64} (ha : DInt i a) : Jvm.Free.Fl.NoNaN64 a := by
  apply Jvm.Free.Fl.noNaN64_no.mpr
  have : FP.Core.val64 a ≠ .nan := fun h => by unfold DInt at ha; rw [h] at ha; exact ha.elim
  cases h : FP.dIsNaN a
  · exact h
  · exact absurd ((dIsNaN_iff a).mp h) this
theorem own_8_nn {i : Int} {a : UInt64} (ha : Own8 i a) : Jvm.Free.Fl.NoNaN64 a := by
  apply Jvm.Free.Fl.noNaN64_no.mpr
  have : FP.Core.val64 a ≠ .nan := fun h => by unfold Own8 at ha; rw [h] at ha; exact ha.elim
  cases h : FP.dIsNaN a
  · exact h
  · exact absurd ((dIsNaN_iff a).mp h) this
end OwnFloat

theorem dOR_0 : decode jdk_37_method_2_code 0 = .ok (.aload_n 0, 1) := by decide +kernel
theorem dOR_1 : decode jdk_37_method_2_code 1 = .ok (.getfield 7, 3) := by decide +kernel
theorem dOR_4 : decode jdk_37_method_2_code 4 = .ok (.ireturn, 1) := by decide +kernel
theorem pn_java_lang_Enum : plainName "java/lang/Enum" = true := by first | (simp [plainName, overriddenIn]; done) | decide +kernel
theorem ef_rmOR (m : MethodId) (a : Addr) : entryFrame m #[(.ref a)] 1 = mkF m 0 #[.val (.ref a)] [] := by first | exact own_entry rfl | (simp [entryFrame, mkF, argsToLocals, Value.category]; done) | rfl
set_option maxRecDepth 65536 in
set_option maxHeartbeats 40000000 in
theorem rmOR (l : Launch) (Z : State) (a0 : Array Value) (hw : ∀ d ∈ tables_1, d.before a0 Z = true) (a : Addr) (u : Int32) (h0 : Heap) (n0 : Nat) (Z0 : n0 ≤ h0.size) (F : Fld Z h0 a "java/lang/Enum" "ordinal" "I" (.int u)) :
    Pays l (⟨"java/lang/Enum", "ordinal", "()I"⟩ : MethodName) jdk_37_method_2_code 1 (some .int) ({ frames := 0, cells := 0, slots := 0, locals := 0 } : Room) Z #[(.ref a)] h0 (fun v h L => v = some (.int u) ∧ Fr n0 L ∧ h = h0) := by
  refine Pays.of (plainFor_of_name pn_java_lang_Enum) ?_
  intro pP eE sS m below methM cC T hx hby hml hret hlk hZ hown hnm eT X
  replace hown : sS.vm.findClass "java/lang/Enum" = some m.cls := hown
  have N0 := Fr.nil n0
  refine Go.cast (ef_rmOR m a) ?_
  refine Go.st (S' := T.setTop (mkF m 1 #[.val (.ref a)] [(.ref a)])) (fun t kt => XS.aloadN X.here hx rfl (hb hby dOR_0) rfl rfl kt) ?_
  obtain ⟨T1, X1, e1, st1⟩ := getF X hx hZ hown (host := "") (Or.inl (hw _ (List.mem_of_getElem? (i := 18) rfl))) Via.refl eT F (g := (mkF m 1 #[.val (.ref a)] [(.ref a)])) rfl rfl (hb hby dOR_1)
  refine Go.st (S' := T1.setTop (mkF m 4 #[.val (.ref a)] [(.int u)])) (fun t kt => st1 t kt) ?_
  exact ret_i X1 hx hlk hret (hb hby dOR_4) (by decide) (by decide) (⟨rfl, N0, e1⟩)
theorem dW0_0 : decode prog_46_method_8_code 0 = .ok (.iload_n 1, 1) := by decide +kernel
theorem dW0_1 : decode prog_46_method_8_code 1 = .ok (.ifCond .ge 17, 3) := by decide +kernel
theorem dW0_18 : decode prog_46_method_8_code 18 = .ok (.aload_n 0, 1) := by decide +kernel
theorem dW0_19 : decode prog_46_method_8_code 19 = .ok (.invokevirtual 72, 3) := by decide +kernel
theorem dW0_22 : decode prog_46_method_8_code 22 = .ok (.tableswitch 30 0 3 #[40, 52, 52, 52], 30) := by decide +kernel
theorem dW0_62 : decode prog_46_method_8_code 62 = .ok (.iload_n 1, 1) := by decide +kernel
theorem dW0_63 : decode prog_46_method_8_code 63 = .ok (.ifCond .le 7, 3) := by decide +kernel
theorem dW0_66 : decode prog_46_method_8_code 66 = .ok (.dconst 1, 1) := by decide +kernel
theorem dW0_67 : decode prog_46_method_8_code 67 = .ok (.goto 11, 3) := by decide +kernel
theorem dW0_70 : decode prog_46_method_8_code 70 = .ok (.dconst 0, 1) := by decide +kernel
theorem dW0_71 : decode prog_46_method_8_code 71 = .ok (.goto 7, 3) := by decide +kernel
theorem dW0_78 : decode prog_46_method_8_code 78 = .ok (.dstore 4, 2) := by decide +kernel
theorem dW0_80 : decode prog_46_method_8_code 80 = .ok (.dload 4, 2) := by decide +kernel
theorem dW0_82 : decode prog_46_method_8_code 82 = .ok (.dreturn, 1) := by decide +kernel
theorem pd___I : parseMethodDescriptor "()I" = some ⟨[], some .int⟩ := by decide +kernel
theorem pn_com_example_widsith_widsith_Weighting : plainName "com/example/widsith/widsith/Weighting" = true := by first | (simp [plainName, overriddenIn]; done) | decide +kernel
theorem ef_rmW0 (m : MethodId) (q : Addr) (f : Int32) (i : UInt64) : entryFrame m #[(.ref q), (.int f), (.double i)] 6 = mkF m 0 #[.val (.ref q), .val (.int f), .val (.double i), .second, .unset, .unset] [] := by first | exact own_entry rfl | (simp [entryFrame, mkF, argsToLocals, Value.category]; done) | rfl
set_option maxRecDepth 65536 in
set_option maxHeartbeats 40000000 in
theorem rmW0 (l : Launch) (Z : State) (a0 : Array Value) (hw : ∀ d ∈ tables_1, d.before a0 Z = true) (q : Addr) (f : Int32) (i r : UInt64) (h0 : Heap) (n0 : Nat) (Z0 : n0 ≤ h0.size) (E_q : Exa Z h0 q "com/example/widsith/widsith/Weighting") (F_o : Fld Z h0 q "java/lang/Enum" "ordinal" "I" (.int (0 : Int32))) (hf : ¬ f < 0) (hr : r = if 0 < f then FP.dconst1 else FP.dconst0) :
    Pays l (⟨"com/example/widsith/widsith/Weighting", "weight", "(ID)D"⟩ : MethodName) prog_46_method_8_code 6 (some .double) ({ frames := 1, cells := 0, slots := 0, locals := 12 } : Room) Z #[(.ref q), (.int f), (.double i)] h0 (fun v h L => v = some (.double r) ∧ Fr n0 L ∧ h = h0) := by
  refine Pays.of (plainFor_of_name pn_com_example_widsith_widsith_Weighting) ?_
  intro pP eE sS m below methM cC T hx hby hml hret hlk hZ hown hnm eT X
  replace hown : sS.vm.findClass "com/example/widsith/widsith/Weighting" = some m.cls := hown
  have N0 := Fr.nil n0
  refine Go.cast (ef_rmW0 m q f i) ?_
  refine Go.st (S' := T.setTop (mkF m 1 #[.val (.ref q), .val (.int f), .val (.double i), .second, .unset, .unset] [(.int f)])) (fun t kt => XS.iloadN X.here hx rfl (hb hby dW0_0) rfl kt) ?_
  refine Go.st (S' := T.setTop (mkF m 18 #[.val (.ref q), .val (.int f), .val (.double i), .second, .unset, .unset] [])) (fun t kt => XS.ifYes X.here hx rfl (pc0 := 1) (pc' := 18) rfl (hb hby dW0_1) rfl (XT.i0_ge_t hf) (by decide) (by decide) kt) ?_
  refine Go.st (S' := T.setTop (mkF m 19 #[.val (.ref q), .val (.int f), .val (.double i), .second, .unset, .unset] [(.ref q)])) (fun t kt => XS.aloadN X.here hx rfl (hb hby dW0_18) rfl rfl kt) ?_
  refine Go.up X hx hZ hown (hw _ (List.mem_of_getElem? (i := 11) rfl)) (hw _ (List.mem_of_getElem? (i := 12) rfl)) (hw _ (List.mem_of_getElem? (i := 13) rfl)) (hw _ (List.mem_of_getElem? (i := 15) rfl)) (hw _ (List.mem_of_getElem? (i := 14) rfl)) (hw _ (List.mem_of_getElem? (i := 17) rfl)) (hw _ (List.mem_of_getElem? (i := 16) rfl)) (by decide) (b := q) (argsL := []) (rest := []) (rmOR l Z a0 hw q (0 : Int32) h0 n0 Z0 F_o) eT E_q rfl (by rw [hml]; rfl) pd___I rfl (hb hby dW0_19) 0 (Nat.le_refl _) (by decide) (by decide) (by decide) (by decide) ?_
  intro v1 T1 L1 X1 hQ1
  obtain ⟨hv1, N1', e1⟩ := hQ1
  subst hv1
  have N1 := Fr.app N0 N1'
  show Go pP eE below _ (T1.setTop (mkF m 22 #[.val (.ref q), .val (.int f), .val (.double i), .second, .unset, .unset] [(.int (0 : Int32))]))
  refine Go.st (S' := T1.setTop (mkF m 62 #[.val (.ref q), .val (.int f), .val (.double i), .second, .unset, .unset] [])) (fun t kt => XS.tswIn X1.here hx rfl (pc0 := 22) (pc' := 62) rfl (hb hby dW0_22) rfl (by decide) rfl (by decide) (by decide) kt) ?_
  refine Go.st (S' := T1.setTop (mkF m 63 #[.val (.ref q), .val (.int f), .val (.double i), .second, .unset, .unset] [(.int f)])) (fun t kt => XS.iloadN X1.here hx rfl (hb hby dW0_62) rfl kt) ?_
  by_cases hc63_2 : 0 < f
  · refine Go.st (S' := T1.setTop (mkF m 66 #[.val (.ref q), .val (.int f), .val (.double i), .second, .unset, .unset] [])) (fun t kt => XS.ifNo X1.here hx rfl (hb hby dW0_63) rfl (XT.i0_le_f hc63_2) kt) ?_
    refine Go.st (S' := T1.setTop (mkF m 67 #[.val (.ref q), .val (.int f), .val (.double i), .second, .unset, .unset] [(.double FP.dconst1)])) (fun t kt => XS.dconst1 X1.here hx rfl (hb hby dW0_66) rfl kt) ?_
    refine Go.st (S' := T1.setTop (mkF m 78 #[.val (.ref q), .val (.int f), .val (.double i), .second, .unset, .unset] [(.double FP.dconst1)])) (fun t kt => XS.goto X1.here hx rfl (pc0 := 67) (pc' := 78) rfl (hb hby dW0_67) (by decide) (by decide) kt) ?_
    refine Go.st (S' := T1.setTop (mkF m 80 #[.val (.ref q), .val (.int f), .val (.double i), .second, .val (.double FP.dconst1), .second] [])) (fun t kt => XS.dstore X1.here hx rfl (hb hby dW0_78) rfl rfl kt) ?_
    refine Go.st (S' := T1.setTop (mkF m 82 #[.val (.ref q), .val (.int f), .val (.double i), .second, .val (.double FP.dconst1), .second] [(.double FP.dconst1)])) (fun t kt => XS.dload X1.here hx rfl (hb hby dW0_80) rfl kt) ?_
    exact ret_d X1 hx hlk hret (hb hby dW0_82) (by decide) (by decide) (⟨by rw [hr, if_pos hc63_2], N1, e1⟩)
  · refine Go.st (S' := T1.setTop (mkF m 70 #[.val (.ref q), .val (.int f), .val (.double i), .second, .unset, .unset] [])) (fun t kt => XS.ifYes X1.here hx rfl (pc0 := 63) (pc' := 70) rfl (hb hby dW0_63) rfl (XT.i0_le_t hc63_2) (by decide) (by decide) kt) ?_
    refine Go.st (S' := T1.setTop (mkF m 71 #[.val (.ref q), .val (.int f), .val (.double i), .second, .unset, .unset] [(.double FP.dconst0)])) (fun t kt => XS.dconst0 X1.here hx rfl (hb hby dW0_70) rfl kt) ?_
    refine Go.st (S' := T1.setTop (mkF m 78 #[.val (.ref q), .val (.int f), .val (.double i), .second, .unset, .unset] [(.double FP.dconst0)])) (fun t kt => XS.goto X1.here hx rfl (pc0 := 71) (pc' := 78) rfl (hb hby dW0_71) (by decide) (by decide) kt) ?_
    refine Go.st (S' := T1.setTop (mkF m 80 #[.val (.ref q), .val (.int f), .val (.double i), .second, .val (.double FP.dconst0), .second] [])) (fun t kt => XS.dstore X1.here hx rfl (hb hby dW0_78) rfl rfl kt) ?_
    refine Go.st (S' := T1.setTop (mkF m 82 #[.val (.ref q), .val (.int f), .val (.double i), .second, .val (.double FP.dconst0), .second] [(.double FP.dconst0)])) (fun t kt => XS.dload X1.here hx rfl (hb hby dW0_80) rfl kt) ?_
    exact ret_d X1 hx hlk hret (hb hby dW0_82) (by decide) (by decide) (⟨by rw [hr, if_neg hc63_2], N1, e1⟩)
theorem dW1_0 : decode prog_46_method_8_code 0 = .ok (.iload_n 1, 1) := by decide +kernel
theorem dW1_1 : decode prog_46_method_8_code 1 = .ok (.ifCond .ge 17, 3) := by decide +kernel
theorem dW1_18 : decode prog_46_method_8_code 18 = .ok (.aload_n 0, 1) := by decide +kernel
theorem dW1_19 : decode prog_46_method_8_code 19 = .ok (.invokevirtual 72, 3) := by decide +kernel
theorem dW1_22 : decode prog_46_method_8_code 22 = .ok (.tableswitch 30 0 3 #[40, 52, 52, 52], 30) := by decide +kernel
theorem dW1_74 : decode prog_46_method_8_code 74 = .ok (.iload_n 1, 1) := by decide +kernel
theorem dW1_75 : decode prog_46_method_8_code 75 = .ok (.i2d, 1) := by decide +kernel
theorem dW1_76 : decode prog_46_method_8_code 76 = .ok (.dload_n 2, 1) := by decide +kernel
theorem dW1_77 : decode prog_46_method_8_code 77 = .ok (.dmul, 1) := by decide +kernel
theorem dW1_78 : decode prog_46_method_8_code 78 = .ok (.dstore 4, 2) := by decide +kernel
theorem dW1_80 : decode prog_46_method_8_code 80 = .ok (.dload 4, 2) := by decide +kernel
theorem dW1_82 : decode prog_46_method_8_code 82 = .ok (.dreturn, 1) := by decide +kernel
theorem ef_rmW1 (m : MethodId) (q : Addr) (f : Int32) (i : UInt64) : entryFrame m #[(.ref q), (.int f), (.double i)] 6 = mkF m 0 #[.val (.ref q), .val (.int f), .val (.double i), .second, .unset, .unset] [] := by first | exact own_entry rfl | (simp [entryFrame, mkF, argsToLocals, Value.category]; done) | rfl
set_option maxRecDepth 65536 in
set_option maxHeartbeats 40000000 in
theorem rmW1 (l : Launch) (Z : State) (a0 : Array Value) (hw : ∀ d ∈ tables_1, d.before a0 Z = true) (q : Addr) (f : Int32) (i r : UInt64) (h0 : Heap) (n0 : Nat) (Z0 : n0 ≤ h0.size) (E_q : Exa Z h0 q "com/example/widsith/widsith/Weighting") (F_o : Fld Z h0 q "java/lang/Enum" "ordinal" "I" (.int (1 : Int32))) (hf : ¬ f < 0) (hr : r = FP.dmul (FP.i2d f) i) (hnn : Jvm.Free.Fl.NoNaN64 (FP.dmul (FP.i2d f) i)) :
    Pays l (⟨"com/example/widsith/widsith/Weighting", "weight", "(ID)D"⟩ : MethodName) prog_46_method_8_code 6 (some .double) ({ frames := 1, cells := 0, slots := 0, locals := 12 } : Room) Z #[(.ref q), (.int f), (.double i)] h0 (fun v h L => v = some (.double r) ∧ Fr n0 L ∧ h = h0) := by
  refine Pays.of (plainFor_of_name pn_com_example_widsith_widsith_Weighting) ?_
  intro pP eE sS m below methM cC T hx hby hml hret hlk hZ hown hnm eT X
  replace hown : sS.vm.findClass "com/example/widsith/widsith/Weighting" = some m.cls := hown
  have N0 := Fr.nil n0
  refine Go.cast (ef_rmW1 m q f i) ?_
  refine Go.st (S' := T.setTop (mkF m 1 #[.val (.ref q), .val (.int f), .val (.double i), .second, .unset, .unset] [(.int f)])) (fun t kt => XS.iloadN X.here hx rfl (hb hby dW1_0) rfl kt) ?_
  refine Go.st (S' := T.setTop (mkF m 18 #[.val (.ref q), .val (.int f), .val (.double i), .second, .unset, .unset] [])) (fun t kt => XS.ifYes X.here hx rfl (pc0 := 1) (pc' := 18) rfl (hb hby dW1_1) rfl (XT.i0_ge_t hf) (by decide) (by decide) kt) ?_
  refine Go.st (S' := T.setTop (mkF m 19 #[.val (.ref q), .val (.int f), .val (.double i), .second, .unset, .unset] [(.ref q)])) (fun t kt => XS.aloadN X.here hx rfl (hb hby dW1_18) rfl rfl kt) ?_
  refine Go.up X hx hZ hown (hw _ (List.mem_of_getElem? (i := 11) rfl)) (hw _ (List.mem_of_getElem? (i := 12) rfl)) (hw _ (List.mem_of_getElem? (i := 13) rfl)) (hw _ (List.mem_of_getElem? (i := 15) rfl)) (hw _ (List.mem_of_getElem? (i := 14) rfl)) (hw _ (List.mem_of_getElem? (i := 17) rfl)) (hw _ (List.mem_of_getElem? (i := 16) rfl)) (by decide) (b := q) (argsL := []) (rest := []) (rmOR l Z a0 hw q (1 : Int32) h0 n0 Z0 F_o) eT E_q rfl (by rw [hml]; rfl) pd___I rfl (hb hby dW1_19) 0 (Nat.le_refl _) (by decide) (by decide) (by decide) (by decide) ?_
  intro v1 T1 L1 X1 hQ1
  obtain ⟨hv1, N1', e1⟩ := hQ1
  subst hv1
  have N1 := Fr.app N0 N1'
  show Go pP eE below _ (T1.setTop (mkF m 22 #[.val (.ref q), .val (.int f), .val (.double i), .second, .unset, .unset] [(.int (1 : Int32))]))
  refine Go.st (S' := T1.setTop (mkF m 74 #[.val (.ref q), .val (.int f), .val (.double i), .second, .unset, .unset] [])) (fun t kt => XS.tswIn X1.here hx rfl (pc0 := 22) (pc' := 74) rfl (hb hby dW1_22) rfl (by decide) rfl (by decide) (by decide) kt) ?_
  refine Go.st (S' := T1.setTop (mkF m 75 #[.val (.ref q), .val (.int f), .val (.double i), .second, .unset, .unset] [(.int f)])) (fun t kt => XS.iloadN X1.here hx rfl (hb hby dW1_74) rfl kt) ?_
  refine Go.st (S' := T1.setTop (mkF m 76 #[.val (.ref q), .val (.int f), .val (.double i), .second, .unset, .unset] [(.double (FP.i2d f))])) (fun t kt => XS.i2dS X1.here hx rfl (hb hby dW1_75) rfl rfl kt) ?_
  refine Go.st (S' := T1.setTop (mkF m 77 #[.val (.ref q), .val (.int f), .val (.double i), .second, .unset, .unset] [(.double i), (.double (FP.i2d f))])) (fun t kt => XS.dloadN X1.here hx rfl (hb hby dW1_76) rfl kt) ?_
  refine Go.st (S' := T1.setTop (mkF m 78 #[.val (.ref q), .val (.int f), .val (.double i), .second, .unset, .unset] [(.double (FP.dmul (FP.i2d f) i))])) (fun t kt => XS.dmulS X1.here hx rfl (hb hby dW1_77) rfl hnn rfl kt) ?_
  refine Go.st (S' := T1.setTop (mkF m 80 #[.val (.ref q), .val (.int f), .val (.double i), .second, .val (.double (FP.dmul (FP.i2d f) i)), .second] [])) (fun t kt => XS.dstore X1.here hx rfl (hb hby dW1_78) rfl rfl kt) ?_
  refine Go.st (S' := T1.setTop (mkF m 82 #[.val (.ref q), .val (.int f), .val (.double i), .second, .val (.double (FP.dmul (FP.i2d f) i)), .second] [(.double (FP.dmul (FP.i2d f) i))])) (fun t kt => XS.dload X1.here hx rfl (hb hby dW1_80) rfl kt) ?_
  exact ret_d X1 hx hlk hret (hb hby dW1_82) (by decide) (by decide) (⟨by rw [hr], N1, e1⟩)
theorem dW2_0 : decode prog_46_method_8_code 0 = .ok (.iload_n 1, 1) := by decide +kernel
theorem dW2_1 : decode prog_46_method_8_code 1 = .ok (.ifCond .ge 17, 3) := by decide +kernel
theorem dW2_18 : decode prog_46_method_8_code 18 = .ok (.aload_n 0, 1) := by decide +kernel
theorem dW2_19 : decode prog_46_method_8_code 19 = .ok (.invokevirtual 72, 3) := by decide +kernel
theorem dW2_22 : decode prog_46_method_8_code 22 = .ok (.tableswitch 30 0 3 #[40, 52, 52, 52], 30) := by decide +kernel
theorem dW2_74 : decode prog_46_method_8_code 74 = .ok (.iload_n 1, 1) := by decide +kernel
theorem dW2_75 : decode prog_46_method_8_code 75 = .ok (.i2d, 1) := by decide +kernel
theorem dW2_76 : decode prog_46_method_8_code 76 = .ok (.dload_n 2, 1) := by decide +kernel
theorem dW2_77 : decode prog_46_method_8_code 77 = .ok (.dmul, 1) := by decide +kernel
theorem dW2_78 : decode prog_46_method_8_code 78 = .ok (.dstore 4, 2) := by decide +kernel
theorem dW2_80 : decode prog_46_method_8_code 80 = .ok (.dload 4, 2) := by decide +kernel
theorem dW2_82 : decode prog_46_method_8_code 82 = .ok (.dreturn, 1) := by decide +kernel
theorem ef_rmW2 (m : MethodId) (q : Addr) (f : Int32) (i : UInt64) : entryFrame m #[(.ref q), (.int f), (.double i)] 6 = mkF m 0 #[.val (.ref q), .val (.int f), .val (.double i), .second, .unset, .unset] [] := by first | exact own_entry rfl | (simp [entryFrame, mkF, argsToLocals, Value.category]; done) | rfl
set_option maxRecDepth 65536 in
set_option maxHeartbeats 40000000 in
theorem rmW2 (l : Launch) (Z : State) (a0 : Array Value) (hw : ∀ d ∈ tables_1, d.before a0 Z = true) (q : Addr) (f : Int32) (i r : UInt64) (h0 : Heap) (n0 : Nat) (Z0 : n0 ≤ h0.size) (E_q : Exa Z h0 q "com/example/widsith/widsith/Weighting") (F_o : Fld Z h0 q "java/lang/Enum" "ordinal" "I" (.int (2 : Int32))) (hf : ¬ f < 0) (hr : r = FP.dmul (FP.i2d f) i) (hnn : Jvm.Free.Fl.NoNaN64 (FP.dmul (FP.i2d f) i)) :
    Pays l (⟨"com/example/widsith/widsith/Weighting", "weight", "(ID)D"⟩ : MethodName) prog_46_method_8_code 6 (some .double) ({ frames := 1, cells := 0, slots := 0, locals := 12 } : Room) Z #[(.ref q), (.int f), (.double i)] h0 (fun v h L => v = some (.double r) ∧ Fr n0 L ∧ h = h0) := by
  refine Pays.of (plainFor_of_name pn_com_example_widsith_widsith_Weighting) ?_
  intro pP eE sS m below methM cC T hx hby hml hret hlk hZ hown hnm eT X
  replace hown : sS.vm.findClass "com/example/widsith/widsith/Weighting" = some m.cls := hown
  have N0 := Fr.nil n0
  refine Go.cast (ef_rmW2 m q f i) ?_
  refine Go.st (S' := T.setTop (mkF m 1 #[.val (.ref q), .val (.int f), .val (.double i), .second, .unset, .unset] [(.int f)])) (fun t kt => XS.iloadN X.here hx rfl (hb hby dW2_0) rfl kt) ?_
  refine Go.st (S' := T.setTop (mkF m 18 #[.val (.ref q), .val (.int f), .val (.double i), .second, .unset, .unset] [])) (fun t kt => XS.ifYes X.here hx rfl (pc0 := 1) (pc' := 18) rfl (hb hby dW2_1) rfl (XT.i0_ge_t hf) (by decide) (by decide) kt) ?_
  refine Go.st (S' := T.setTop (mkF m 19 #[.val (.ref q), .val (.int f), .val (.double i), .second, .unset, .unset] [(.ref q)])) (fun t kt => XS.aloadN X.here hx rfl (hb hby dW2_18) rfl rfl kt) ?_
  refine Go.up X hx hZ hown (hw _ (List.mem_of_getElem? (i := 11) rfl)) (hw _ (List.mem_of_getElem? (i := 12) rfl)) (hw _ (List.mem_of_getElem? (i := 13) rfl)) (hw _ (List.mem_of_getElem? (i := 15) rfl)) (hw _ (List.mem_of_getElem? (i := 14) rfl)) (hw _ (List.mem_of_getElem? (i := 17) rfl)) (hw _ (List.mem_of_getElem? (i := 16) rfl)) (by decide) (b := q) (argsL := []) (rest := []) (rmOR l Z a0 hw q (2 : Int32) h0 n0 Z0 F_o) eT E_q rfl (by rw [hml]; rfl) pd___I rfl (hb hby dW2_19) 0 (Nat.le_refl _) (by decide) (by decide) (by decide) (by decide) ?_
  intro v1 T1 L1 X1 hQ1
  obtain ⟨hv1, N1', e1⟩ := hQ1
  subst hv1
  have N1 := Fr.app N0 N1'
  show Go pP eE below _ (T1.setTop (mkF m 22 #[.val (.ref q), .val (.int f), .val (.double i), .second, .unset, .unset] [(.int (2 : Int32))]))
  refine Go.st (S' := T1.setTop (mkF m 74 #[.val (.ref q), .val (.int f), .val (.double i), .second, .unset, .unset] [])) (fun t kt => XS.tswIn X1.here hx rfl (pc0 := 22) (pc' := 74) rfl (hb hby dW2_22) rfl (by decide) rfl (by decide) (by decide) kt) ?_
  refine Go.st (S' := T1.setTop (mkF m 75 #[.val (.ref q), .val (.int f), .val (.double i), .second, .unset, .unset] [(.int f)])) (fun t kt => XS.iloadN X1.here hx rfl (hb hby dW2_74) rfl kt) ?_
  refine Go.st (S' := T1.setTop (mkF m 76 #[.val (.ref q), .val (.int f), .val (.double i), .second, .unset, .unset] [(.double (FP.i2d f))])) (fun t kt => XS.i2dS X1.here hx rfl (hb hby dW2_75) rfl rfl kt) ?_
  refine Go.st (S' := T1.setTop (mkF m 77 #[.val (.ref q), .val (.int f), .val (.double i), .second, .unset, .unset] [(.double i), (.double (FP.i2d f))])) (fun t kt => XS.dloadN X1.here hx rfl (hb hby dW2_76) rfl kt) ?_
  refine Go.st (S' := T1.setTop (mkF m 78 #[.val (.ref q), .val (.int f), .val (.double i), .second, .unset, .unset] [(.double (FP.dmul (FP.i2d f) i))])) (fun t kt => XS.dmulS X1.here hx rfl (hb hby dW2_77) rfl hnn rfl kt) ?_
  refine Go.st (S' := T1.setTop (mkF m 80 #[.val (.ref q), .val (.int f), .val (.double i), .second, .val (.double (FP.dmul (FP.i2d f) i)), .second] [])) (fun t kt => XS.dstore X1.here hx rfl (hb hby dW2_78) rfl rfl kt) ?_
  refine Go.st (S' := T1.setTop (mkF m 82 #[.val (.ref q), .val (.int f), .val (.double i), .second, .val (.double (FP.dmul (FP.i2d f) i)), .second] [(.double (FP.dmul (FP.i2d f) i))])) (fun t kt => XS.dload X1.here hx rfl (hb hby dW2_80) rfl kt) ?_
  exact ret_d X1 hx hlk hret (hb hby dW2_82) (by decide) (by decide) (⟨by rw [hr], N1, e1⟩)
theorem dW3_0 : decode prog_46_method_8_code 0 = .ok (.iload_n 1, 1) := by decide +kernel
theorem dW3_1 : decode prog_46_method_8_code 1 = .ok (.ifCond .ge 17, 3) := by decide +kernel
theorem dW3_18 : decode prog_46_method_8_code 18 = .ok (.aload_n 0, 1) := by decide +kernel
theorem dW3_19 : decode prog_46_method_8_code 19 = .ok (.invokevirtual 72, 3) := by decide +kernel
theorem dW3_22 : decode prog_46_method_8_code 22 = .ok (.tableswitch 30 0 3 #[40, 52, 52, 52], 30) := by decide +kernel
theorem dW3_74 : decode prog_46_method_8_code 74 = .ok (.iload_n 1, 1) := by decide +kernel
theorem dW3_75 : decode prog_46_method_8_code 75 = .ok (.i2d, 1) := by decide +kernel
theorem dW3_76 : decode prog_46_method_8_code 76 = .ok (.dload_n 2, 1) := by decide +kernel
theorem dW3_77 : decode prog_46_method_8_code 77 = .ok (.dmul, 1) := by decide +kernel
theorem dW3_78 : decode prog_46_method_8_code 78 = .ok (.dstore 4, 2) := by decide +kernel
theorem dW3_80 : decode prog_46_method_8_code 80 = .ok (.dload 4, 2) := by decide +kernel
theorem dW3_82 : decode prog_46_method_8_code 82 = .ok (.dreturn, 1) := by decide +kernel
theorem ef_rmW3 (m : MethodId) (q : Addr) (f : Int32) (i : UInt64) : entryFrame m #[(.ref q), (.int f), (.double i)] 6 = mkF m 0 #[.val (.ref q), .val (.int f), .val (.double i), .second, .unset, .unset] [] := by first | exact own_entry rfl | (simp [entryFrame, mkF, argsToLocals, Value.category]; done) | rfl
set_option maxRecDepth 65536 in
set_option maxHeartbeats 40000000 in
theorem rmW3 (l : Launch) (Z : State) (a0 : Array Value) (hw : ∀ d ∈ tables_1, d.before a0 Z = true) (q : Addr) (f : Int32) (i r : UInt64) (h0 : Heap) (n0 : Nat) (Z0 : n0 ≤ h0.size) (E_q : Exa Z h0 q "com/example/widsith/widsith/Weighting") (F_o : Fld Z h0 q "java/lang/Enum" "ordinal" "I" (.int (3 : Int32))) (hf : ¬ f < 0) (hr : r = FP.dmul (FP.i2d f) i) (hnn : Jvm.Free.Fl.NoNaN64 (FP.dmul (FP.i2d f) i)) :
    Pays l (⟨"com/example/widsith/widsith/Weighting", "weight", "(ID)D"⟩ : MethodName) prog_46_method_8_code 6 (some .double) ({ frames := 1, cells := 0, slots := 0, locals := 12 } : Room) Z #[(.ref q), (.int f), (.double i)] h0 (fun v h L => v = some (.double r) ∧ Fr n0 L ∧ h = h0) := by
  refine Pays.of (plainFor_of_name pn_com_example_widsith_widsith_Weighting) ?_
  intro pP eE sS m below methM cC T hx hby hml hret hlk hZ hown hnm eT X
  replace hown : sS.vm.findClass "com/example/widsith/widsith/Weighting" = some m.cls := hown
  have N0 := Fr.nil n0
  refine Go.cast (ef_rmW3 m q f i) ?_
  refine Go.st (S' := T.setTop (mkF m 1 #[.val (.ref q), .val (.int f), .val (.double i), .second, .unset, .unset] [(.int f)])) (fun t kt => XS.iloadN X.here hx rfl (hb hby dW3_0) rfl kt) ?_
  refine Go.st (S' := T.setTop (mkF m 18 #[.val (.ref q), .val (.int f), .val (.double i), .second, .unset, .unset] [])) (fun t kt => XS.ifYes X.here hx rfl (pc0 := 1) (pc' := 18) rfl (hb hby dW3_1) rfl (XT.i0_ge_t hf) (by decide) (by decide) kt) ?_
  refine Go.st (S' := T.setTop (mkF m 19 #[.val (.ref q), .val (.int f), .val (.double i), .second, .unset, .unset] [(.ref q)])) (fun t kt => XS.aloadN X.here hx rfl (hb hby dW3_18) rfl rfl kt) ?_
  refine Go.up X hx hZ hown (hw _ (List.mem_of_getElem? (i := 11) rfl)) (hw _ (List.mem_of_getElem? (i := 12) rfl)) (hw _ (List.mem_of_getElem? (i := 13) rfl)) (hw _ (List.mem_of_getElem? (i := 15) rfl)) (hw _ (List.mem_of_getElem? (i := 14) rfl)) (hw _ (List.mem_of_getElem? (i := 17) rfl)) (hw _ (List.mem_of_getElem? (i := 16) rfl)) (by decide) (b := q) (argsL := []) (rest := []) (rmOR l Z a0 hw q (3 : Int32) h0 n0 Z0 F_o) eT E_q rfl (by rw [hml]; rfl) pd___I rfl (hb hby dW3_19) 0 (Nat.le_refl _) (by decide) (by decide) (by decide) (by decide) ?_
  intro v1 T1 L1 X1 hQ1
  obtain ⟨hv1, N1', e1⟩ := hQ1
  subst hv1
  have N1 := Fr.app N0 N1'
  show Go pP eE below _ (T1.setTop (mkF m 22 #[.val (.ref q), .val (.int f), .val (.double i), .second, .unset, .unset] [(.int (3 : Int32))]))
  refine Go.st (S' := T1.setTop (mkF m 74 #[.val (.ref q), .val (.int f), .val (.double i), .second, .unset, .unset] [])) (fun t kt => XS.tswIn X1.here hx rfl (pc0 := 22) (pc' := 74) rfl (hb hby dW3_22) rfl (by decide) rfl (by decide) (by decide) kt) ?_
  refine Go.st (S' := T1.setTop (mkF m 75 #[.val (.ref q), .val (.int f), .val (.double i), .second, .unset, .unset] [(.int f)])) (fun t kt => XS.iloadN X1.here hx rfl (hb hby dW3_74) rfl kt) ?_
  refine Go.st (S' := T1.setTop (mkF m 76 #[.val (.ref q), .val (.int f), .val (.double i), .second, .unset, .unset] [(.double (FP.i2d f))])) (fun t kt => XS.i2dS X1.here hx rfl (hb hby dW3_75) rfl rfl kt) ?_
  refine Go.st (S' := T1.setTop (mkF m 77 #[.val (.ref q), .val (.int f), .val (.double i), .second, .unset, .unset] [(.double i), (.double (FP.i2d f))])) (fun t kt => XS.dloadN X1.here hx rfl (hb hby dW3_76) rfl kt) ?_
  refine Go.st (S' := T1.setTop (mkF m 78 #[.val (.ref q), .val (.int f), .val (.double i), .second, .unset, .unset] [(.double (FP.dmul (FP.i2d f) i))])) (fun t kt => XS.dmulS X1.here hx rfl (hb hby dW3_77) rfl hnn rfl kt) ?_
  refine Go.st (S' := T1.setTop (mkF m 80 #[.val (.ref q), .val (.int f), .val (.double i), .second, .val (.double (FP.dmul (FP.i2d f) i)), .second] [])) (fun t kt => XS.dstore X1.here hx rfl (hb hby dW3_78) rfl rfl kt) ?_
  refine Go.st (S' := T1.setTop (mkF m 82 #[.val (.ref q), .val (.int f), .val (.double i), .second, .val (.double (FP.dmul (FP.i2d f) i)), .second] [(.double (FP.dmul (FP.i2d f) i))])) (fun t kt => XS.dload X1.here hx rfl (hb hby dW3_80) rfl kt) ?_
  exact ret_d X1 hx hlk hret (hb hby dW3_82) (by decide) (by decide) (⟨by rw [hr], N1, e1⟩)
theorem own_f0 (x : Int32) : ¬ (x &&& (2147483647 : Int32)) < 0 := by
  have h := c_and x (2147483647 : Int32) (by decide)
  rw [Int32.lt_iff_toInt_lt]
  have : (0 : Int32).toInt = 0 := rfl
  omega
theorem own_m8 (m : Int32) : Own8 m.toInt (FP.ddiv (FP.i2d m) (4620693217682128896 : UInt64)) := by
  have h := rng32 m
  exact own_div8 (FP.Core.i2d_int m) (by omega)
theorem own_bound {f m : Int} (hf : 0 ≤ f) (hf' : f ≤ 2147483647) (hm : 0 ≤ m) (hm' : m ≤ 65535) : (f * m).natAbs ≤ 2 ^ 53 := by
  have h1 := Int.mul_le_mul hf' hm' hm (by decide)
  have h2 := Int.mul_nonneg hf hm
  omega
theorem own_fm (x y : Int32) : Own8 ((x &&& (2147483647 : Int32)).toInt * (y &&& (65535 : Int32)).toInt) (FP.dmul (FP.i2d (x &&& (2147483647 : Int32))) (FP.ddiv (FP.i2d (y &&& (65535 : Int32))) (4620693217682128896 : UInt64))) := by
  have h1 := c_and x (2147483647 : Int32) (by decide)
  have h2 := c_and y (65535 : Int32) (by decide)
  have e1 : (2147483647 : Int32).toInt = 2147483647 := rfl
  have e2 : (65535 : Int32).toInt = 65535 := rfl
  exact own_mul8 (FP.Core.i2d_int _) (own_m8 _) (own_bound h1.1 (by omega) h2.1 (by omega))
theorem own_lm (x y : Int32) : Own8 ((x &&& (2147483647 : Int32)).toInt * (y &&& (65535 : Int32)).toInt) (FP.ddiv (FP.l2d (((x &&& (2147483647 : Int32))).toInt64 * ((y &&& (65535 : Int32))).toInt64)) (4620693217682128896 : UInt64)) := by
  have h1 := c_and x (2147483647 : Int32) (by decide)
  have h2 := c_and y (65535 : Int32) (by decide)
  have e1 : (2147483647 : Int32).toInt = 2147483647 := rfl
  have e2 : (65535 : Int32).toInt = 65535 := rfl
  have b := own_bound h1.1 (by omega : (x &&& (2147483647 : Int32)).toInt ≤ 2147483647) h2.1 (by omega : (y &&& (65535 : Int32)).toInt ≤ 65535)
  have e := XT.wideMul (x &&& (2147483647 : Int32)) (y &&& (65535 : Int32))
  have q := own_div8 (FP.Core.l2d_int (a := ((x &&& (2147483647 : Int32))).toInt64 * ((y &&& (65535 : Int32))).toInt64) (by rw [e]; exact b)) (by rw [e]; exact b)
  rw [e] at q
  exact q
theorem own_c1 : cmpValue (FP.dcmp FP.dconst1 FP.dconst1) .l = 0 := by decide +kernel
theorem own_c0 : cmpValue (FP.dcmp FP.dconst0 FP.dconst0) .l = 0 := by decide +kernel
theorem pd__ID_D : parseMethodDescriptor "(ID)D" = some ⟨[.int, .double], some .double⟩ := by decide +kernel
theorem pn_com_example_widsith_widsith_WeightingWeightPinLaw : plainName "com/example/widsith/widsith/WeightingWeightPinLaw" = true := by first | (simp [plainName, overriddenIn]; done) | decide +kernel
theorem ef_rm0 (m : MethodId) (p0 : Int32) (p1 : Int32) (p2 : Int32) : entryFrame m #[(.int p0), (.int p1), (.int p2)] maxLocals = mkF m 0 #[.val (.int p0), .val (.int p1), .val (.int p2), .unset, .unset, .unset, .unset, .unset, .unset, .unset, .unset] [] := by first | exact own_entry rfl | (simp [entryFrame, mkF, argsToLocals, Value.category, maxLocals]; done) | rfl
set_option maxRecDepth 65536 in
set_option maxHeartbeats 40000000 in
theorem rm0 (l : Launch) (Z : State) (a0 : Array Value) (hw : ∀ d ∈ tables_1, d.before a0 Z = true) (p0 p1 p2 : Int32) (h0 : Heap) (n0 : Nat) (Z0 : n0 ≤ h0.size) (o0 o1 o2 o3 : Addr) (S_0 : Sta Z h0 "com/example/widsith/widsith/Weighting" "BINARY" "Lcom/example/widsith/widsith/Weighting;" (.ref o0)) (E_0 : Exa Z h0 o0 "com/example/widsith/widsith/Weighting") (F_0 : Fld Z h0 o0 "java/lang/Enum" "ordinal" "I" (.int (0 : Int32))) (S_1 : Sta Z h0 "com/example/widsith/widsith/Weighting" "TF" "Lcom/example/widsith/widsith/Weighting;" (.ref o1)) (E_1 : Exa Z h0 o1 "com/example/widsith/widsith/Weighting") (F_1 : Fld Z h0 o1 "java/lang/Enum" "ordinal" "I" (.int (1 : Int32))) (S_2 : Sta Z h0 "com/example/widsith/widsith/Weighting" "TFIDF" "Lcom/example/widsith/widsith/Weighting;" (.ref o2)) (E_2 : Exa Z h0 o2 "com/example/widsith/widsith/Weighting") (F_2 : Fld Z h0 o2 "java/lang/Enum" "ordinal" "I" (.int (2 : Int32))) (S_3 : Sta Z h0 "com/example/widsith/widsith/Weighting" "TFIDF_SMOOTH" "Lcom/example/widsith/widsith/Weighting;" (.ref o3)) (E_3 : Exa Z h0 o3 "com/example/widsith/widsith/Weighting") (F_3 : Fld Z h0 o3 "java/lang/Enum" "ordinal" "I" (.int (3 : Int32))) :
    Pays l x code maxLocals ret room_1 Z #[(.int p0), (.int p1), (.int p2)] h0 (fun v h L => v = some (.int 1) ∧ Fr n0 L) := by
  refine Pays.of (plainFor_of_name pn_com_example_widsith_widsith_WeightingWeightPinLaw) ?_
  intro pP eE sS m below methM cC T hx hby hml hret hlk hZ hown hnm eT X
  replace hown : sS.vm.findClass "com/example/widsith/widsith/WeightingWeightPinLaw" = some m.cls := hown
  have N0 := Fr.nil n0
  refine Go.cast (ef_rm0 m p0 p1 p2) ?_
  refine Go.st (S' := T.setTop (mkF m 1 #[.val (.int p0), .val (.int p1), .val (.int p2), .unset, .unset, .unset, .unset, .unset, .unset, .unset, .unset] [(.int p0)])) (fun t kt => XS.iloadN X.here hx rfl (hb hby at_0) rfl kt) ?_
  refine Go.st (S' := T.setTop (mkF m 2 #[.val (.int p0), .val (.int p1), .val (.int p2), .unset, .unset, .unset, .unset, .unset, .unset, .unset, .unset] [(.int (3 : Int32)), (.int p0)])) (fun t kt => XS.iconst X.here hx rfl (hb hby at_1) kt) ?_
  refine Go.st (S' := T.setTop (mkF m 3 #[.val (.int p0), .val (.int p1), .val (.int p2), .unset, .unset, .unset, .unset, .unset, .unset, .unset, .unset] [(.int (p0 &&& (3 : Int32)))])) (fun t kt => XS.iand X.here hx rfl (hb hby at_2) rfl kt) ?_
  refine Go.st (S' := T.setTop (mkF m 4 #[.val (.int p0), .val (.int p1), .val (.int p2), .val (.int (p0 &&& (3 : Int32))), .unset, .unset, .unset, .unset, .unset, .unset, .unset] [])) (fun t kt => XS.istoreN X.here hx rfl (hb hby at_3) rfl rfl kt) ?_
  refine Go.st (S' := T.setTop (mkF m 5 #[.val (.int p0), .val (.int p1), .val (.int p2), .val (.int (p0 &&& (3 : Int32))), .unset, .unset, .unset, .unset, .unset, .unset, .unset] [(.int (p0 &&& (3 : Int32)))])) (fun t kt => XS.iloadN X.here hx rfl (hb hby at_4) rfl kt) ?_
  by_cases hc5_1 : (p0 &&& (3 : Int32)) = 0
  · refine Go.st (S' := T.setTop (mkF m 8 #[.val (.int p0), .val (.int p1), .val (.int p2), .val (.int (p0 &&& (3 : Int32))), .unset, .unset, .unset, .unset, .unset, .unset, .unset] [])) (fun t kt => XS.ifNo X.here hx rfl (hb hby at_5) rfl (XT.i0_ne_f hc5_1) kt) ?_
    obtain ⟨T2, X2, e2, st2⟩ := getS X hx hZ (host := "") hown (hw _ (List.mem_of_getElem? (i := 0) rfl)) Via.refl eT S_0 (g := (mkF m 8 #[.val (.int p0), .val (.int p1), .val (.int p2), .val (.int (p0 &&& (3 : Int32))), .unset, .unset, .unset, .unset, .unset, .unset, .unset] [])) rfl (hb hby at_8)
    refine Go.st (S' := T2.setTop (mkF m 11 #[.val (.int p0), .val (.int p1), .val (.int p2), .val (.int (p0 &&& (3 : Int32))), .unset, .unset, .unset, .unset, .unset, .unset, .unset] [(.ref o0)])) (fun t kt => st2 t kt) ?_
    refine Go.st (S' := T2.setTop (mkF m 13 #[.val (.int p0), .val (.int p1), .val (.int p2), .val (.int (p0 &&& (3 : Int32))), .val (.ref o0), .unset, .unset, .unset, .unset, .unset, .unset] [])) (fun t kt => XS.astore X2.here hx rfl (hb hby at_11) rfl rfl rfl kt) ?_
    refine Go.st (S' := T2.setTop (mkF m 47 #[.val (.int p0), .val (.int p1), .val (.int p2), .val (.int (p0 &&& (3 : Int32))), .val (.ref o0), .unset, .unset, .unset, .unset, .unset, .unset] [])) (fun t kt => XS.goto X2.here hx rfl (pc0 := 13) (pc' := 47) rfl (hb hby at_13) (by decide) (by decide) kt) ?_
    refine Go.st (S' := T2.setTop (mkF m 48 #[.val (.int p0), .val (.int p1), .val (.int p2), .val (.int (p0 &&& (3 : Int32))), .val (.ref o0), .unset, .unset, .unset, .unset, .unset, .unset] [(.int p1)])) (fun t kt => XS.iloadN X2.here hx rfl (hb hby at_47) rfl kt) ?_
    refine Go.st (S' := T2.setTop (mkF m 50 #[.val (.int p0), .val (.int p1), .val (.int p2), .val (.int (p0 &&& (3 : Int32))), .val (.ref o0), .unset, .unset, .unset, .unset, .unset, .unset] [(.int (2147483647 : Int32)), (.int p1)])) (fun t kt => X2.ldcI hx hown (mv hZ (hw _ (List.mem_of_getElem? (i := 3) rfl))) rfl (hb hby at_48) kt) ?_
    refine Go.st (S' := T2.setTop (mkF m 51 #[.val (.int p0), .val (.int p1), .val (.int p2), .val (.int (p0 &&& (3 : Int32))), .val (.ref o0), .unset, .unset, .unset, .unset, .unset, .unset] [(.int (p1 &&& (2147483647 : Int32)))])) (fun t kt => XS.iand X2.here hx rfl (hb hby at_50) rfl kt) ?_
    refine Go.st (S' := T2.setTop (mkF m 53 #[.val (.int p0), .val (.int p1), .val (.int p2), .val (.int (p0 &&& (3 : Int32))), .val (.ref o0), .val (.int (p1 &&& (2147483647 : Int32))), .unset, .unset, .unset, .unset, .unset] [])) (fun t kt => XS.istore X2.here hx rfl (hb hby at_51) rfl rfl kt) ?_
    refine Go.st (S' := T2.setTop (mkF m 54 #[.val (.int p0), .val (.int p1), .val (.int p2), .val (.int (p0 &&& (3 : Int32))), .val (.ref o0), .val (.int (p1 &&& (2147483647 : Int32))), .unset, .unset, .unset, .unset, .unset] [(.int p2)])) (fun t kt => XS.iloadN X2.here hx rfl (hb hby at_53) rfl kt) ?_
    refine Go.st (S' := T2.setTop (mkF m 56 #[.val (.int p0), .val (.int p1), .val (.int p2), .val (.int (p0 &&& (3 : Int32))), .val (.ref o0), .val (.int (p1 &&& (2147483647 : Int32))), .unset, .unset, .unset, .unset, .unset] [(.int (65535 : Int32)), (.int p2)])) (fun t kt => X2.ldcI hx hown (mv hZ (hw _ (List.mem_of_getElem? (i := 4) rfl))) rfl (hb hby at_54) kt) ?_
    refine Go.st (S' := T2.setTop (mkF m 57 #[.val (.int p0), .val (.int p1), .val (.int p2), .val (.int (p0 &&& (3 : Int32))), .val (.ref o0), .val (.int (p1 &&& (2147483647 : Int32))), .unset, .unset, .unset, .unset, .unset] [(.int (p2 &&& (65535 : Int32)))])) (fun t kt => XS.iand X2.here hx rfl (hb hby at_56) rfl kt) ?_
    refine Go.st (S' := T2.setTop (mkF m 59 #[.val (.int p0), .val (.int p1), .val (.int p2), .val (.int (p0 &&& (3 : Int32))), .val (.ref o0), .val (.int (p1 &&& (2147483647 : Int32))), .val (.int (p2 &&& (65535 : Int32))), .unset, .unset, .unset, .unset] [])) (fun t kt => XS.istore X2.here hx rfl (hb hby at_57) rfl rfl kt) ?_
    refine Go.st (S' := T2.setTop (mkF m 61 #[.val (.int p0), .val (.int p1), .val (.int p2), .val (.int (p0 &&& (3 : Int32))), .val (.ref o0), .val (.int (p1 &&& (2147483647 : Int32))), .val (.int (p2 &&& (65535 : Int32))), .unset, .unset, .unset, .unset] [(.int (p2 &&& (65535 : Int32)))])) (fun t kt => XS.iload X2.here hx rfl (hb hby at_59) rfl kt) ?_
    refine Go.st (S' := T2.setTop (mkF m 62 #[.val (.int p0), .val (.int p1), .val (.int p2), .val (.int (p0 &&& (3 : Int32))), .val (.ref o0), .val (.int (p1 &&& (2147483647 : Int32))), .val (.int (p2 &&& (65535 : Int32))), .unset, .unset, .unset, .unset] [(.double (FP.i2d (p2 &&& (65535 : Int32))))])) (fun t kt => XS.i2dS X2.here hx rfl (hb hby at_61) rfl rfl kt) ?_
    refine Go.st (S' := T2.setTop (mkF m 65 #[.val (.int p0), .val (.int p1), .val (.int p2), .val (.int (p0 &&& (3 : Int32))), .val (.ref o0), .val (.int (p1 &&& (2147483647 : Int32))), .val (.int (p2 &&& (65535 : Int32))), .unset, .unset, .unset, .unset] [(.double (4620693217682128896 : UInt64)), (.double (FP.i2d (p2 &&& (65535 : Int32))))])) (fun t kt => X2.ldc2DoubleC hx hown (mv hZ (hw _ (List.mem_of_getElem? (i := 5) rfl))) (g := (mkF m 62 #[.val (.int p0), .val (.int p1), .val (.int p2), .val (.int (p0 &&& (3 : Int32))), .val (.ref o0), .val (.int (p1 &&& (2147483647 : Int32))), .val (.int (p2 &&& (65535 : Int32))), .unset, .unset, .unset, .unset] [(.double (FP.i2d (p2 &&& (65535 : Int32))))])) rfl (hb hby at_62) t kt) ?_
    refine Go.st (S' := T2.setTop (mkF m 66 #[.val (.int p0), .val (.int p1), .val (.int p2), .val (.int (p0 &&& (3 : Int32))), .val (.ref o0), .val (.int (p1 &&& (2147483647 : Int32))), .val (.int (p2 &&& (65535 : Int32))), .unset, .unset, .unset, .unset] [(.double (FP.ddiv (FP.i2d (p2 &&& (65535 : Int32))) (4620693217682128896 : UInt64)))])) (fun t kt => XS.ddivS X2.here hx rfl (hb hby at_65) rfl (own_8_nn (own_m8 _)) rfl kt) ?_
    refine Go.st (S' := T2.setTop (mkF m 68 #[.val (.int p0), .val (.int p1), .val (.int p2), .val (.int (p0 &&& (3 : Int32))), .val (.ref o0), .val (.int (p1 &&& (2147483647 : Int32))), .val (.int (p2 &&& (65535 : Int32))), .val (.double (FP.ddiv (FP.i2d (p2 &&& (65535 : Int32))) (4620693217682128896 : UInt64))), .second, .unset, .unset] [])) (fun t kt => XS.dstore X2.here hx rfl (hb hby at_66) rfl rfl kt) ?_
    refine Go.st (S' := T2.setTop (mkF m 69 #[.val (.int p0), .val (.int p1), .val (.int p2), .val (.int (p0 &&& (3 : Int32))), .val (.ref o0), .val (.int (p1 &&& (2147483647 : Int32))), .val (.int (p2 &&& (65535 : Int32))), .val (.double (FP.ddiv (FP.i2d (p2 &&& (65535 : Int32))) (4620693217682128896 : UInt64))), .second, .unset, .unset] [(.int (p0 &&& (3 : Int32)))])) (fun t kt => XS.iloadN X2.here hx rfl (hb hby at_68) rfl kt) ?_
    refine Go.st (S' := T2.setTop (mkF m 72 #[.val (.int p0), .val (.int p1), .val (.int p2), .val (.int (p0 &&& (3 : Int32))), .val (.ref o0), .val (.int (p1 &&& (2147483647 : Int32))), .val (.int (p2 &&& (65535 : Int32))), .val (.double (FP.ddiv (FP.i2d (p2 &&& (65535 : Int32))) (4620693217682128896 : UInt64))), .second, .unset, .unset] [])) (fun t kt => XS.ifNo X2.here hx rfl (hb hby at_69) rfl (XT.i0_ne_f hc5_1) kt) ?_
    refine Go.st (S' := T2.setTop (mkF m 74 #[.val (.int p0), .val (.int p1), .val (.int p2), .val (.int (p0 &&& (3 : Int32))), .val (.ref o0), .val (.int (p1 &&& (2147483647 : Int32))), .val (.int (p2 &&& (65535 : Int32))), .val (.double (FP.ddiv (FP.i2d (p2 &&& (65535 : Int32))) (4620693217682128896 : UInt64))), .second, .unset, .unset] [(.int (p1 &&& (2147483647 : Int32)))])) (fun t kt => XS.iload X2.here hx rfl (hb hby at_72) rfl kt) ?_
    by_cases hc74_3 : 0 < (p1 &&& (2147483647 : Int32))
    · refine Go.st (S' := T2.setTop (mkF m 77 #[.val (.int p0), .val (.int p1), .val (.int p2), .val (.int (p0 &&& (3 : Int32))), .val (.ref o0), .val (.int (p1 &&& (2147483647 : Int32))), .val (.int (p2 &&& (65535 : Int32))), .val (.double (FP.ddiv (FP.i2d (p2 &&& (65535 : Int32))) (4620693217682128896 : UInt64))), .second, .unset, .unset] [])) (fun t kt => XS.ifNo X2.here hx rfl (hb hby at_74) rfl (XT.i0_le_f hc74_3) kt) ?_
      refine Go.st (S' := T2.setTop (mkF m 78 #[.val (.int p0), .val (.int p1), .val (.int p2), .val (.int (p0 &&& (3 : Int32))), .val (.ref o0), .val (.int (p1 &&& (2147483647 : Int32))), .val (.int (p2 &&& (65535 : Int32))), .val (.double (FP.ddiv (FP.i2d (p2 &&& (65535 : Int32))) (4620693217682128896 : UInt64))), .second, .unset, .unset] [(.double FP.dconst1)])) (fun t kt => XS.dconst1 X2.here hx rfl (hb hby at_77) rfl kt) ?_
      refine Go.st (S' := T2.setTop (mkF m 80 #[.val (.int p0), .val (.int p1), .val (.int p2), .val (.int (p0 &&& (3 : Int32))), .val (.ref o0), .val (.int (p1 &&& (2147483647 : Int32))), .val (.int (p2 &&& (65535 : Int32))), .val (.double (FP.ddiv (FP.i2d (p2 &&& (65535 : Int32))) (4620693217682128896 : UInt64))), .second, .val (.double FP.dconst1), .second] [])) (fun t kt => XS.dstore X2.here hx rfl (hb hby at_78) rfl rfl kt) ?_
      refine Go.st (S' := T2.setTop (mkF m 103 #[.val (.int p0), .val (.int p1), .val (.int p2), .val (.int (p0 &&& (3 : Int32))), .val (.ref o0), .val (.int (p1 &&& (2147483647 : Int32))), .val (.int (p2 &&& (65535 : Int32))), .val (.double (FP.ddiv (FP.i2d (p2 &&& (65535 : Int32))) (4620693217682128896 : UInt64))), .second, .val (.double FP.dconst1), .second] [])) (fun t kt => XS.goto X2.here hx rfl (pc0 := 80) (pc' := 103) rfl (hb hby at_80) (by decide) (by decide) kt) ?_
      refine Go.st (S' := T2.setTop (mkF m 105 #[.val (.int p0), .val (.int p1), .val (.int p2), .val (.int (p0 &&& (3 : Int32))), .val (.ref o0), .val (.int (p1 &&& (2147483647 : Int32))), .val (.int (p2 &&& (65535 : Int32))), .val (.double (FP.ddiv (FP.i2d (p2 &&& (65535 : Int32))) (4620693217682128896 : UInt64))), .second, .val (.double FP.dconst1), .second] [(.ref o0)])) (fun t kt => XS.aload X2.here hx rfl (hb hby at_103) rfl rfl kt) ?_
      refine Go.st (S' := T2.setTop (mkF m 107 #[.val (.int p0), .val (.int p1), .val (.int p2), .val (.int (p0 &&& (3 : Int32))), .val (.ref o0), .val (.int (p1 &&& (2147483647 : Int32))), .val (.int (p2 &&& (65535 : Int32))), .val (.double (FP.ddiv (FP.i2d (p2 &&& (65535 : Int32))) (4620693217682128896 : UInt64))), .second, .val (.double FP.dconst1), .second] [(.int (p1 &&& (2147483647 : Int32))), (.ref o0)])) (fun t kt => XS.iload X2.here hx rfl (hb hby at_105) rfl kt) ?_
      refine Go.st (S' := T2.setTop (mkF m 109 #[.val (.int p0), .val (.int p1), .val (.int p2), .val (.int (p0 &&& (3 : Int32))), .val (.ref o0), .val (.int (p1 &&& (2147483647 : Int32))), .val (.int (p2 &&& (65535 : Int32))), .val (.double (FP.ddiv (FP.i2d (p2 &&& (65535 : Int32))) (4620693217682128896 : UInt64))), .second, .val (.double FP.dconst1), .second] [(.double (FP.ddiv (FP.i2d (p2 &&& (65535 : Int32))) (4620693217682128896 : UInt64))), (.int (p1 &&& (2147483647 : Int32))), (.ref o0)])) (fun t kt => XS.dload X2.here hx rfl (hb hby at_107) rfl kt) ?_
      refine Go.virt X2 hx hZ hown (hw _ (List.mem_of_getElem? (i := 6) rfl)) (hw _ (List.mem_of_getElem? (i := 7) rfl)) (notFace_of_selects (mvT (args := #[]) hZ (hw _ (List.mem_of_getElem? (i := 9) rfl)))) (hw _ (List.mem_of_getElem? (i := 9) rfl)) (hw _ (List.mem_of_getElem? (i := 8) rfl)) (hw _ (List.mem_of_getElem? (i := 10) rfl)) (hw _ (List.mem_of_getElem? (i := 1) rfl)) (by decide) (b := o0) (argsL := [(.int (p1 &&& (2147483647 : Int32))), (.double (FP.ddiv (FP.i2d (p2 &&& (65535 : Int32))) (4620693217682128896 : UInt64)))]) (rest := []) (rmW0 l Z a0 hw o0 (p1 &&& (2147483647 : Int32)) (FP.ddiv (FP.i2d (p2 &&& (65535 : Int32))) (4620693217682128896 : UInt64)) FP.dconst1 h0 n0 Z0 E_0 F_0 (own_f0 p1) (by rw [if_pos hc74_3])) e2 E_0 rfl (by rw [hml]; rfl) pd__ID_D rfl (hb hby at_109) 0 (Nat.le_refl _) (by decide) (by decide) (by decide) (by decide) ?_
      intro v4 T4 L4 X4 hQ4
      obtain ⟨hv4, N4', e4⟩ := hQ4
      subst hv4
      have N4 := Fr.app N0 N4'
      show Go pP eE below _ (T4.setTop (mkF m 112 #[.val (.int p0), .val (.int p1), .val (.int p2), .val (.int (p0 &&& (3 : Int32))), .val (.ref o0), .val (.int (p1 &&& (2147483647 : Int32))), .val (.int (p2 &&& (65535 : Int32))), .val (.double (FP.ddiv (FP.i2d (p2 &&& (65535 : Int32))) (4620693217682128896 : UInt64))), .second, .val (.double FP.dconst1), .second] [(.double FP.dconst1)]))
      refine Go.st (S' := T4.setTop (mkF m 114 #[.val (.int p0), .val (.int p1), .val (.int p2), .val (.int (p0 &&& (3 : Int32))), .val (.ref o0), .val (.int (p1 &&& (2147483647 : Int32))), .val (.int (p2 &&& (65535 : Int32))), .val (.double (FP.ddiv (FP.i2d (p2 &&& (65535 : Int32))) (4620693217682128896 : UInt64))), .second, .val (.double FP.dconst1), .second] [(.double FP.dconst1), (.double FP.dconst1)])) (fun t kt => XS.dload X4.here hx rfl (hb hby at_112) rfl kt) ?_
      refine Go.st (S' := T4.setTop (mkF m 115 #[.val (.int p0), .val (.int p1), .val (.int p2), .val (.int (p0 &&& (3 : Int32))), .val (.ref o0), .val (.int (p1 &&& (2147483647 : Int32))), .val (.int (p2 &&& (65535 : Int32))), .val (.double (FP.ddiv (FP.i2d (p2 &&& (65535 : Int32))) (4620693217682128896 : UInt64))), .second, .val (.double FP.dconst1), .second] [(.int (cmpValue (FP.dcmp FP.dconst1 FP.dconst1) .l))])) (fun t kt => XS.dcmpS X4.here hx rfl (hb hby at_114) rfl rfl kt) ?_
      refine Go.st (S' := T4.setTop (mkF m 118 #[.val (.int p0), .val (.int p1), .val (.int p2), .val (.int (p0 &&& (3 : Int32))), .val (.ref o0), .val (.int (p1 &&& (2147483647 : Int32))), .val (.int (p2 &&& (65535 : Int32))), .val (.double (FP.ddiv (FP.i2d (p2 &&& (65535 : Int32))) (4620693217682128896 : UInt64))), .second, .val (.double FP.dconst1), .second] [])) (fun t kt => XS.ifNo X4.here hx rfl (hb hby at_115) rfl (XT.i0_ne_f own_c1) kt) ?_
      refine Go.st (S' := T4.setTop (mkF m 119 #[.val (.int p0), .val (.int p1), .val (.int p2), .val (.int (p0 &&& (3 : Int32))), .val (.ref o0), .val (.int (p1 &&& (2147483647 : Int32))), .val (.int (p2 &&& (65535 : Int32))), .val (.double (FP.ddiv (FP.i2d (p2 &&& (65535 : Int32))) (4620693217682128896 : UInt64))), .second, .val (.double FP.dconst1), .second] [(.int (1 : Int32))])) (fun t kt => XS.iconst X4.here hx rfl (hb hby at_118) kt) ?_
      refine Go.st (S' := T4.setTop (mkF m 123 #[.val (.int p0), .val (.int p1), .val (.int p2), .val (.int (p0 &&& (3 : Int32))), .val (.ref o0), .val (.int (p1 &&& (2147483647 : Int32))), .val (.int (p2 &&& (65535 : Int32))), .val (.double (FP.ddiv (FP.i2d (p2 &&& (65535 : Int32))) (4620693217682128896 : UInt64))), .second, .val (.double FP.dconst1), .second] [(.int (1 : Int32))])) (fun t kt => XS.goto X4.here hx rfl (pc0 := 119) (pc' := 123) rfl (hb hby at_119) (by decide) (by decide) kt) ?_
      exact ret_b X4 hx hlk hret (hb hby at_123) (by decide) (by decide) (⟨rfl, N4⟩)
    · refine Go.st (S' := T2.setTop (mkF m 83 #[.val (.int p0), .val (.int p1), .val (.int p2), .val (.int (p0 &&& (3 : Int32))), .val (.ref o0), .val (.int (p1 &&& (2147483647 : Int32))), .val (.int (p2 &&& (65535 : Int32))), .val (.double (FP.ddiv (FP.i2d (p2 &&& (65535 : Int32))) (4620693217682128896 : UInt64))), .second, .unset, .unset] [])) (fun t kt => XS.ifYes X2.here hx rfl (pc0 := 74) (pc' := 83) rfl (hb hby at_74) rfl (XT.i0_le_t hc74_3) (by decide) (by decide) kt) ?_
      refine Go.st (S' := T2.setTop (mkF m 84 #[.val (.int p0), .val (.int p1), .val (.int p2), .val (.int (p0 &&& (3 : Int32))), .val (.ref o0), .val (.int (p1 &&& (2147483647 : Int32))), .val (.int (p2 &&& (65535 : Int32))), .val (.double (FP.ddiv (FP.i2d (p2 &&& (65535 : Int32))) (4620693217682128896 : UInt64))), .second, .unset, .unset] [(.double FP.dconst0)])) (fun t kt => XS.dconst0 X2.here hx rfl (hb hby at_83) rfl kt) ?_
      refine Go.st (S' := T2.setTop (mkF m 86 #[.val (.int p0), .val (.int p1), .val (.int p2), .val (.int (p0 &&& (3 : Int32))), .val (.ref o0), .val (.int (p1 &&& (2147483647 : Int32))), .val (.int (p2 &&& (65535 : Int32))), .val (.double (FP.ddiv (FP.i2d (p2 &&& (65535 : Int32))) (4620693217682128896 : UInt64))), .second, .val (.double FP.dconst0), .second] [])) (fun t kt => XS.dstore X2.here hx rfl (hb hby at_84) rfl rfl kt) ?_
      refine Go.st (S' := T2.setTop (mkF m 103 #[.val (.int p0), .val (.int p1), .val (.int p2), .val (.int (p0 &&& (3 : Int32))), .val (.ref o0), .val (.int (p1 &&& (2147483647 : Int32))), .val (.int (p2 &&& (65535 : Int32))), .val (.double (FP.ddiv (FP.i2d (p2 &&& (65535 : Int32))) (4620693217682128896 : UInt64))), .second, .val (.double FP.dconst0), .second] [])) (fun t kt => XS.goto X2.here hx rfl (pc0 := 86) (pc' := 103) rfl (hb hby at_86) (by decide) (by decide) kt) ?_
      refine Go.st (S' := T2.setTop (mkF m 105 #[.val (.int p0), .val (.int p1), .val (.int p2), .val (.int (p0 &&& (3 : Int32))), .val (.ref o0), .val (.int (p1 &&& (2147483647 : Int32))), .val (.int (p2 &&& (65535 : Int32))), .val (.double (FP.ddiv (FP.i2d (p2 &&& (65535 : Int32))) (4620693217682128896 : UInt64))), .second, .val (.double FP.dconst0), .second] [(.ref o0)])) (fun t kt => XS.aload X2.here hx rfl (hb hby at_103) rfl rfl kt) ?_
      refine Go.st (S' := T2.setTop (mkF m 107 #[.val (.int p0), .val (.int p1), .val (.int p2), .val (.int (p0 &&& (3 : Int32))), .val (.ref o0), .val (.int (p1 &&& (2147483647 : Int32))), .val (.int (p2 &&& (65535 : Int32))), .val (.double (FP.ddiv (FP.i2d (p2 &&& (65535 : Int32))) (4620693217682128896 : UInt64))), .second, .val (.double FP.dconst0), .second] [(.int (p1 &&& (2147483647 : Int32))), (.ref o0)])) (fun t kt => XS.iload X2.here hx rfl (hb hby at_105) rfl kt) ?_
      refine Go.st (S' := T2.setTop (mkF m 109 #[.val (.int p0), .val (.int p1), .val (.int p2), .val (.int (p0 &&& (3 : Int32))), .val (.ref o0), .val (.int (p1 &&& (2147483647 : Int32))), .val (.int (p2 &&& (65535 : Int32))), .val (.double (FP.ddiv (FP.i2d (p2 &&& (65535 : Int32))) (4620693217682128896 : UInt64))), .second, .val (.double FP.dconst0), .second] [(.double (FP.ddiv (FP.i2d (p2 &&& (65535 : Int32))) (4620693217682128896 : UInt64))), (.int (p1 &&& (2147483647 : Int32))), (.ref o0)])) (fun t kt => XS.dload X2.here hx rfl (hb hby at_107) rfl kt) ?_
      refine Go.virt X2 hx hZ hown (hw _ (List.mem_of_getElem? (i := 6) rfl)) (hw _ (List.mem_of_getElem? (i := 7) rfl)) (notFace_of_selects (mvT (args := #[]) hZ (hw _ (List.mem_of_getElem? (i := 9) rfl)))) (hw _ (List.mem_of_getElem? (i := 9) rfl)) (hw _ (List.mem_of_getElem? (i := 8) rfl)) (hw _ (List.mem_of_getElem? (i := 10) rfl)) (hw _ (List.mem_of_getElem? (i := 1) rfl)) (by decide) (b := o0) (argsL := [(.int (p1 &&& (2147483647 : Int32))), (.double (FP.ddiv (FP.i2d (p2 &&& (65535 : Int32))) (4620693217682128896 : UInt64)))]) (rest := []) (rmW0 l Z a0 hw o0 (p1 &&& (2147483647 : Int32)) (FP.ddiv (FP.i2d (p2 &&& (65535 : Int32))) (4620693217682128896 : UInt64)) FP.dconst0 h0 n0 Z0 E_0 F_0 (own_f0 p1) (by rw [if_neg hc74_3])) e2 E_0 rfl (by rw [hml]; rfl) pd__ID_D rfl (hb hby at_109) 0 (Nat.le_refl _) (by decide) (by decide) (by decide) (by decide) ?_
      intro v5 T5 L5 X5 hQ5
      obtain ⟨hv5, N5', e5⟩ := hQ5
      subst hv5
      have N5 := Fr.app N0 N5'
      show Go pP eE below _ (T5.setTop (mkF m 112 #[.val (.int p0), .val (.int p1), .val (.int p2), .val (.int (p0 &&& (3 : Int32))), .val (.ref o0), .val (.int (p1 &&& (2147483647 : Int32))), .val (.int (p2 &&& (65535 : Int32))), .val (.double (FP.ddiv (FP.i2d (p2 &&& (65535 : Int32))) (4620693217682128896 : UInt64))), .second, .val (.double FP.dconst0), .second] [(.double FP.dconst0)]))
      refine Go.st (S' := T5.setTop (mkF m 114 #[.val (.int p0), .val (.int p1), .val (.int p2), .val (.int (p0 &&& (3 : Int32))), .val (.ref o0), .val (.int (p1 &&& (2147483647 : Int32))), .val (.int (p2 &&& (65535 : Int32))), .val (.double (FP.ddiv (FP.i2d (p2 &&& (65535 : Int32))) (4620693217682128896 : UInt64))), .second, .val (.double FP.dconst0), .second] [(.double FP.dconst0), (.double FP.dconst0)])) (fun t kt => XS.dload X5.here hx rfl (hb hby at_112) rfl kt) ?_
      refine Go.st (S' := T5.setTop (mkF m 115 #[.val (.int p0), .val (.int p1), .val (.int p2), .val (.int (p0 &&& (3 : Int32))), .val (.ref o0), .val (.int (p1 &&& (2147483647 : Int32))), .val (.int (p2 &&& (65535 : Int32))), .val (.double (FP.ddiv (FP.i2d (p2 &&& (65535 : Int32))) (4620693217682128896 : UInt64))), .second, .val (.double FP.dconst0), .second] [(.int (cmpValue (FP.dcmp FP.dconst0 FP.dconst0) .l))])) (fun t kt => XS.dcmpS X5.here hx rfl (hb hby at_114) rfl rfl kt) ?_
      refine Go.st (S' := T5.setTop (mkF m 118 #[.val (.int p0), .val (.int p1), .val (.int p2), .val (.int (p0 &&& (3 : Int32))), .val (.ref o0), .val (.int (p1 &&& (2147483647 : Int32))), .val (.int (p2 &&& (65535 : Int32))), .val (.double (FP.ddiv (FP.i2d (p2 &&& (65535 : Int32))) (4620693217682128896 : UInt64))), .second, .val (.double FP.dconst0), .second] [])) (fun t kt => XS.ifNo X5.here hx rfl (hb hby at_115) rfl (XT.i0_ne_f own_c0) kt) ?_
      refine Go.st (S' := T5.setTop (mkF m 119 #[.val (.int p0), .val (.int p1), .val (.int p2), .val (.int (p0 &&& (3 : Int32))), .val (.ref o0), .val (.int (p1 &&& (2147483647 : Int32))), .val (.int (p2 &&& (65535 : Int32))), .val (.double (FP.ddiv (FP.i2d (p2 &&& (65535 : Int32))) (4620693217682128896 : UInt64))), .second, .val (.double FP.dconst0), .second] [(.int (1 : Int32))])) (fun t kt => XS.iconst X5.here hx rfl (hb hby at_118) kt) ?_
      refine Go.st (S' := T5.setTop (mkF m 123 #[.val (.int p0), .val (.int p1), .val (.int p2), .val (.int (p0 &&& (3 : Int32))), .val (.ref o0), .val (.int (p1 &&& (2147483647 : Int32))), .val (.int (p2 &&& (65535 : Int32))), .val (.double (FP.ddiv (FP.i2d (p2 &&& (65535 : Int32))) (4620693217682128896 : UInt64))), .second, .val (.double FP.dconst0), .second] [(.int (1 : Int32))])) (fun t kt => XS.goto X5.here hx rfl (pc0 := 119) (pc' := 123) rfl (hb hby at_119) (by decide) (by decide) kt) ?_
      exact ret_b X5 hx hlk hret (hb hby at_123) (by decide) (by decide) (⟨rfl, N5⟩)
  · refine Go.st (S' := T.setTop (mkF m 16 #[.val (.int p0), .val (.int p1), .val (.int p2), .val (.int (p0 &&& (3 : Int32))), .unset, .unset, .unset, .unset, .unset, .unset, .unset] [])) (fun t kt => XS.ifYes X.here hx rfl (pc0 := 5) (pc' := 16) rfl (hb hby at_5) rfl (XT.i0_ne_t hc5_1) (by decide) (by decide) kt) ?_
    refine Go.st (S' := T.setTop (mkF m 17 #[.val (.int p0), .val (.int p1), .val (.int p2), .val (.int (p0 &&& (3 : Int32))), .unset, .unset, .unset, .unset, .unset, .unset, .unset] [(.int (p0 &&& (3 : Int32)))])) (fun t kt => XS.iloadN X.here hx rfl (hb hby at_16) rfl kt) ?_
    refine Go.st (S' := T.setTop (mkF m 18 #[.val (.int p0), .val (.int p1), .val (.int p2), .val (.int (p0 &&& (3 : Int32))), .unset, .unset, .unset, .unset, .unset, .unset, .unset] [(.int (1 : Int32)), (.int (p0 &&& (3 : Int32)))])) (fun t kt => XS.iconst X.here hx rfl (hb hby at_17) kt) ?_
    by_cases hc18_6 : (p0 &&& (3 : Int32)) = (1 : Int32)
    · refine Go.st (S' := T.setTop (mkF m 21 #[.val (.int p0), .val (.int p1), .val (.int p2), .val (.int (p0 &&& (3 : Int32))), .unset, .unset, .unset, .unset, .unset, .unset, .unset] [])) (fun t kt => XS.icmpNo X.here hx rfl (hb hby at_18) rfl (XT.ii_ne_f hc18_6) kt) ?_
      obtain ⟨T7, X7, e7, st7⟩ := getS X hx hZ (host := "") hown (hw _ (List.mem_of_getElem? (i := 20) rfl)) Via.refl eT S_1 (g := (mkF m 21 #[.val (.int p0), .val (.int p1), .val (.int p2), .val (.int (p0 &&& (3 : Int32))), .unset, .unset, .unset, .unset, .unset, .unset, .unset] [])) rfl (hb hby at_21)
      refine Go.st (S' := T7.setTop (mkF m 24 #[.val (.int p0), .val (.int p1), .val (.int p2), .val (.int (p0 &&& (3 : Int32))), .unset, .unset, .unset, .unset, .unset, .unset, .unset] [(.ref o1)])) (fun t kt => st7 t kt) ?_
      refine Go.st (S' := T7.setTop (mkF m 26 #[.val (.int p0), .val (.int p1), .val (.int p2), .val (.int (p0 &&& (3 : Int32))), .val (.ref o1), .unset, .unset, .unset, .unset, .unset, .unset] [])) (fun t kt => XS.astore X7.here hx rfl (hb hby at_24) rfl rfl rfl kt) ?_
      refine Go.st (S' := T7.setTop (mkF m 47 #[.val (.int p0), .val (.int p1), .val (.int p2), .val (.int (p0 &&& (3 : Int32))), .val (.ref o1), .unset, .unset, .unset, .unset, .unset, .unset] [])) (fun t kt => XS.goto X7.here hx rfl (pc0 := 26) (pc' := 47) rfl (hb hby at_26) (by decide) (by decide) kt) ?_
      refine Go.st (S' := T7.setTop (mkF m 48 #[.val (.int p0), .val (.int p1), .val (.int p2), .val (.int (p0 &&& (3 : Int32))), .val (.ref o1), .unset, .unset, .unset, .unset, .unset, .unset] [(.int p1)])) (fun t kt => XS.iloadN X7.here hx rfl (hb hby at_47) rfl kt) ?_
      refine Go.st (S' := T7.setTop (mkF m 50 #[.val (.int p0), .val (.int p1), .val (.int p2), .val (.int (p0 &&& (3 : Int32))), .val (.ref o1), .unset, .unset, .unset, .unset, .unset, .unset] [(.int (2147483647 : Int32)), (.int p1)])) (fun t kt => X7.ldcI hx hown (mv hZ (hw _ (List.mem_of_getElem? (i := 3) rfl))) rfl (hb hby at_48) kt) ?_
      refine Go.st (S' := T7.setTop (mkF m 51 #[.val (.int p0), .val (.int p1), .val (.int p2), .val (.int (p0 &&& (3 : Int32))), .val (.ref o1), .unset, .unset, .unset, .unset, .unset, .unset] [(.int (p1 &&& (2147483647 : Int32)))])) (fun t kt => XS.iand X7.here hx rfl (hb hby at_50) rfl kt) ?_
      refine Go.st (S' := T7.setTop (mkF m 53 #[.val (.int p0), .val (.int p1), .val (.int p2), .val (.int (p0 &&& (3 : Int32))), .val (.ref o1), .val (.int (p1 &&& (2147483647 : Int32))), .unset, .unset, .unset, .unset, .unset] [])) (fun t kt => XS.istore X7.here hx rfl (hb hby at_51) rfl rfl kt) ?_
      refine Go.st (S' := T7.setTop (mkF m 54 #[.val (.int p0), .val (.int p1), .val (.int p2), .val (.int (p0 &&& (3 : Int32))), .val (.ref o1), .val (.int (p1 &&& (2147483647 : Int32))), .unset, .unset, .unset, .unset, .unset] [(.int p2)])) (fun t kt => XS.iloadN X7.here hx rfl (hb hby at_53) rfl kt) ?_
      refine Go.st (S' := T7.setTop (mkF m 56 #[.val (.int p0), .val (.int p1), .val (.int p2), .val (.int (p0 &&& (3 : Int32))), .val (.ref o1), .val (.int (p1 &&& (2147483647 : Int32))), .unset, .unset, .unset, .unset, .unset] [(.int (65535 : Int32)), (.int p2)])) (fun t kt => X7.ldcI hx hown (mv hZ (hw _ (List.mem_of_getElem? (i := 4) rfl))) rfl (hb hby at_54) kt) ?_
      refine Go.st (S' := T7.setTop (mkF m 57 #[.val (.int p0), .val (.int p1), .val (.int p2), .val (.int (p0 &&& (3 : Int32))), .val (.ref o1), .val (.int (p1 &&& (2147483647 : Int32))), .unset, .unset, .unset, .unset, .unset] [(.int (p2 &&& (65535 : Int32)))])) (fun t kt => XS.iand X7.here hx rfl (hb hby at_56) rfl kt) ?_
      refine Go.st (S' := T7.setTop (mkF m 59 #[.val (.int p0), .val (.int p1), .val (.int p2), .val (.int (p0 &&& (3 : Int32))), .val (.ref o1), .val (.int (p1 &&& (2147483647 : Int32))), .val (.int (p2 &&& (65535 : Int32))), .unset, .unset, .unset, .unset] [])) (fun t kt => XS.istore X7.here hx rfl (hb hby at_57) rfl rfl kt) ?_
      refine Go.st (S' := T7.setTop (mkF m 61 #[.val (.int p0), .val (.int p1), .val (.int p2), .val (.int (p0 &&& (3 : Int32))), .val (.ref o1), .val (.int (p1 &&& (2147483647 : Int32))), .val (.int (p2 &&& (65535 : Int32))), .unset, .unset, .unset, .unset] [(.int (p2 &&& (65535 : Int32)))])) (fun t kt => XS.iload X7.here hx rfl (hb hby at_59) rfl kt) ?_
      refine Go.st (S' := T7.setTop (mkF m 62 #[.val (.int p0), .val (.int p1), .val (.int p2), .val (.int (p0 &&& (3 : Int32))), .val (.ref o1), .val (.int (p1 &&& (2147483647 : Int32))), .val (.int (p2 &&& (65535 : Int32))), .unset, .unset, .unset, .unset] [(.double (FP.i2d (p2 &&& (65535 : Int32))))])) (fun t kt => XS.i2dS X7.here hx rfl (hb hby at_61) rfl rfl kt) ?_
      refine Go.st (S' := T7.setTop (mkF m 65 #[.val (.int p0), .val (.int p1), .val (.int p2), .val (.int (p0 &&& (3 : Int32))), .val (.ref o1), .val (.int (p1 &&& (2147483647 : Int32))), .val (.int (p2 &&& (65535 : Int32))), .unset, .unset, .unset, .unset] [(.double (4620693217682128896 : UInt64)), (.double (FP.i2d (p2 &&& (65535 : Int32))))])) (fun t kt => X7.ldc2DoubleC hx hown (mv hZ (hw _ (List.mem_of_getElem? (i := 5) rfl))) (g := (mkF m 62 #[.val (.int p0), .val (.int p1), .val (.int p2), .val (.int (p0 &&& (3 : Int32))), .val (.ref o1), .val (.int (p1 &&& (2147483647 : Int32))), .val (.int (p2 &&& (65535 : Int32))), .unset, .unset, .unset, .unset] [(.double (FP.i2d (p2 &&& (65535 : Int32))))])) rfl (hb hby at_62) t kt) ?_
      refine Go.st (S' := T7.setTop (mkF m 66 #[.val (.int p0), .val (.int p1), .val (.int p2), .val (.int (p0 &&& (3 : Int32))), .val (.ref o1), .val (.int (p1 &&& (2147483647 : Int32))), .val (.int (p2 &&& (65535 : Int32))), .unset, .unset, .unset, .unset] [(.double (FP.ddiv (FP.i2d (p2 &&& (65535 : Int32))) (4620693217682128896 : UInt64)))])) (fun t kt => XS.ddivS X7.here hx rfl (hb hby at_65) rfl (own_8_nn (own_m8 _)) rfl kt) ?_
      refine Go.st (S' := T7.setTop (mkF m 68 #[.val (.int p0), .val (.int p1), .val (.int p2), .val (.int (p0 &&& (3 : Int32))), .val (.ref o1), .val (.int (p1 &&& (2147483647 : Int32))), .val (.int (p2 &&& (65535 : Int32))), .val (.double (FP.ddiv (FP.i2d (p2 &&& (65535 : Int32))) (4620693217682128896 : UInt64))), .second, .unset, .unset] [])) (fun t kt => XS.dstore X7.here hx rfl (hb hby at_66) rfl rfl kt) ?_
      refine Go.st (S' := T7.setTop (mkF m 69 #[.val (.int p0), .val (.int p1), .val (.int p2), .val (.int (p0 &&& (3 : Int32))), .val (.ref o1), .val (.int (p1 &&& (2147483647 : Int32))), .val (.int (p2 &&& (65535 : Int32))), .val (.double (FP.ddiv (FP.i2d (p2 &&& (65535 : Int32))) (4620693217682128896 : UInt64))), .second, .unset, .unset] [(.int (p0 &&& (3 : Int32)))])) (fun t kt => XS.iloadN X7.here hx rfl (hb hby at_68) rfl kt) ?_
      refine Go.st (S' := T7.setTop (mkF m 89 #[.val (.int p0), .val (.int p1), .val (.int p2), .val (.int (p0 &&& (3 : Int32))), .val (.ref o1), .val (.int (p1 &&& (2147483647 : Int32))), .val (.int (p2 &&& (65535 : Int32))), .val (.double (FP.ddiv (FP.i2d (p2 &&& (65535 : Int32))) (4620693217682128896 : UInt64))), .second, .unset, .unset] [])) (fun t kt => XS.ifYes X7.here hx rfl (pc0 := 69) (pc' := 89) rfl (hb hby at_69) rfl (XT.i0_ne_t hc5_1) (by decide) (by decide) kt) ?_
      refine Go.st (S' := T7.setTop (mkF m 91 #[.val (.int p0), .val (.int p1), .val (.int p2), .val (.int (p0 &&& (3 : Int32))), .val (.ref o1), .val (.int (p1 &&& (2147483647 : Int32))), .val (.int (p2 &&& (65535 : Int32))), .val (.double (FP.ddiv (FP.i2d (p2 &&& (65535 : Int32))) (4620693217682128896 : UInt64))), .second, .unset, .unset] [(.int (p1 &&& (2147483647 : Int32)))])) (fun t kt => XS.iload X7.here hx rfl (hb hby at_89) rfl kt) ?_
      refine Go.st (S' := T7.setTop (mkF m 92 #[.val (.int p0), .val (.int p1), .val (.int p2), .val (.int (p0 &&& (3 : Int32))), .val (.ref o1), .val (.int (p1 &&& (2147483647 : Int32))), .val (.int (p2 &&& (65535 : Int32))), .val (.double (FP.ddiv (FP.i2d (p2 &&& (65535 : Int32))) (4620693217682128896 : UInt64))), .second, .unset, .unset] [(.long ((p1 &&& (2147483647 : Int32))).toInt64)])) (fun t kt => XT.i2l X7.here hx rfl (hb hby at_91) rfl kt) ?_
      refine Go.st (S' := T7.setTop (mkF m 94 #[.val (.int p0), .val (.int p1), .val (.int p2), .val (.int (p0 &&& (3 : Int32))), .val (.ref o1), .val (.int (p1 &&& (2147483647 : Int32))), .val (.int (p2 &&& (65535 : Int32))), .val (.double (FP.ddiv (FP.i2d (p2 &&& (65535 : Int32))) (4620693217682128896 : UInt64))), .second, .unset, .unset] [(.int (p2 &&& (65535 : Int32))), (.long ((p1 &&& (2147483647 : Int32))).toInt64)])) (fun t kt => XS.iload X7.here hx rfl (hb hby at_92) rfl kt) ?_
      refine Go.st (S' := T7.setTop (mkF m 95 #[.val (.int p0), .val (.int p1), .val (.int p2), .val (.int (p0 &&& (3 : Int32))), .val (.ref o1), .val (.int (p1 &&& (2147483647 : Int32))), .val (.int (p2 &&& (65535 : Int32))), .val (.double (FP.ddiv (FP.i2d (p2 &&& (65535 : Int32))) (4620693217682128896 : UInt64))), .second, .unset, .unset] [(.long ((p2 &&& (65535 : Int32))).toInt64), (.long ((p1 &&& (2147483647 : Int32))).toInt64)])) (fun t kt => XT.i2l X7.here hx rfl (hb hby at_94) rfl kt) ?_
      refine Go.st (S' := T7.setTop (mkF m 96 #[.val (.int p0), .val (.int p1), .val (.int p2), .val (.int (p0 &&& (3 : Int32))), .val (.ref o1), .val (.int (p1 &&& (2147483647 : Int32))), .val (.int (p2 &&& (65535 : Int32))), .val (.double (FP.ddiv (FP.i2d (p2 &&& (65535 : Int32))) (4620693217682128896 : UInt64))), .second, .unset, .unset] [(.long (((p1 &&& (2147483647 : Int32))).toInt64 * ((p2 &&& (65535 : Int32))).toInt64))])) (fun t kt => XT.lmul X7.here hx rfl (hb hby at_95) rfl kt) ?_
      refine Go.st (S' := T7.setTop (mkF m 97 #[.val (.int p0), .val (.int p1), .val (.int p2), .val (.int (p0 &&& (3 : Int32))), .val (.ref o1), .val (.int (p1 &&& (2147483647 : Int32))), .val (.int (p2 &&& (65535 : Int32))), .val (.double (FP.ddiv (FP.i2d (p2 &&& (65535 : Int32))) (4620693217682128896 : UInt64))), .second, .unset, .unset] [(.double (FP.l2d (((p1 &&& (2147483647 : Int32))).toInt64 * ((p2 &&& (65535 : Int32))).toInt64)))])) (fun t kt => XS.l2dS X7.here hx rfl (hb hby at_96) rfl rfl kt) ?_
      refine Go.st (S' := T7.setTop (mkF m 100 #[.val (.int p0), .val (.int p1), .val (.int p2), .val (.int (p0 &&& (3 : Int32))), .val (.ref o1), .val (.int (p1 &&& (2147483647 : Int32))), .val (.int (p2 &&& (65535 : Int32))), .val (.double (FP.ddiv (FP.i2d (p2 &&& (65535 : Int32))) (4620693217682128896 : UInt64))), .second, .unset, .unset] [(.double (4620693217682128896 : UInt64)), (.double (FP.l2d (((p1 &&& (2147483647 : Int32))).toInt64 * ((p2 &&& (65535 : Int32))).toInt64)))])) (fun t kt => X7.ldc2DoubleC hx hown (mv hZ (hw _ (List.mem_of_getElem? (i := 5) rfl))) (g := (mkF m 97 #[.val (.int p0), .val (.int p1), .val (.int p2), .val (.int (p0 &&& (3 : Int32))), .val (.ref o1), .val (.int (p1 &&& (2147483647 : Int32))), .val (.int (p2 &&& (65535 : Int32))), .val (.double (FP.ddiv (FP.i2d (p2 &&& (65535 : Int32))) (4620693217682128896 : UInt64))), .second, .unset, .unset] [(.double (FP.l2d (((p1 &&& (2147483647 : Int32))).toInt64 * ((p2 &&& (65535 : Int32))).toInt64)))])) rfl (hb hby at_97) t kt) ?_
      refine Go.st (S' := T7.setTop (mkF m 101 #[.val (.int p0), .val (.int p1), .val (.int p2), .val (.int (p0 &&& (3 : Int32))), .val (.ref o1), .val (.int (p1 &&& (2147483647 : Int32))), .val (.int (p2 &&& (65535 : Int32))), .val (.double (FP.ddiv (FP.i2d (p2 &&& (65535 : Int32))) (4620693217682128896 : UInt64))), .second, .unset, .unset] [(.double (FP.ddiv (FP.l2d (((p1 &&& (2147483647 : Int32))).toInt64 * ((p2 &&& (65535 : Int32))).toInt64)) (4620693217682128896 : UInt64)))])) (fun t kt => XS.ddivS X7.here hx rfl (hb hby at_100) rfl (own_8_nn (own_lm p1 p2)) rfl kt) ?_
      refine Go.st (S' := T7.setTop (mkF m 103 #[.val (.int p0), .val (.int p1), .val (.int p2), .val (.int (p0 &&& (3 : Int32))), .val (.ref o1), .val (.int (p1 &&& (2147483647 : Int32))), .val (.int (p2 &&& (65535 : Int32))), .val (.double (FP.ddiv (FP.i2d (p2 &&& (65535 : Int32))) (4620693217682128896 : UInt64))), .second, .val (.double (FP.ddiv (FP.l2d (((p1 &&& (2147483647 : Int32))).toInt64 * ((p2 &&& (65535 : Int32))).toInt64)) (4620693217682128896 : UInt64))), .second] [])) (fun t kt => XS.dstore X7.here hx rfl (hb hby at_101) rfl rfl kt) ?_
      refine Go.st (S' := T7.setTop (mkF m 105 #[.val (.int p0), .val (.int p1), .val (.int p2), .val (.int (p0 &&& (3 : Int32))), .val (.ref o1), .val (.int (p1 &&& (2147483647 : Int32))), .val (.int (p2 &&& (65535 : Int32))), .val (.double (FP.ddiv (FP.i2d (p2 &&& (65535 : Int32))) (4620693217682128896 : UInt64))), .second, .val (.double (FP.ddiv (FP.l2d (((p1 &&& (2147483647 : Int32))).toInt64 * ((p2 &&& (65535 : Int32))).toInt64)) (4620693217682128896 : UInt64))), .second] [(.ref o1)])) (fun t kt => XS.aload X7.here hx rfl (hb hby at_103) rfl rfl kt) ?_
      refine Go.st (S' := T7.setTop (mkF m 107 #[.val (.int p0), .val (.int p1), .val (.int p2), .val (.int (p0 &&& (3 : Int32))), .val (.ref o1), .val (.int (p1 &&& (2147483647 : Int32))), .val (.int (p2 &&& (65535 : Int32))), .val (.double (FP.ddiv (FP.i2d (p2 &&& (65535 : Int32))) (4620693217682128896 : UInt64))), .second, .val (.double (FP.ddiv (FP.l2d (((p1 &&& (2147483647 : Int32))).toInt64 * ((p2 &&& (65535 : Int32))).toInt64)) (4620693217682128896 : UInt64))), .second] [(.int (p1 &&& (2147483647 : Int32))), (.ref o1)])) (fun t kt => XS.iload X7.here hx rfl (hb hby at_105) rfl kt) ?_
      refine Go.st (S' := T7.setTop (mkF m 109 #[.val (.int p0), .val (.int p1), .val (.int p2), .val (.int (p0 &&& (3 : Int32))), .val (.ref o1), .val (.int (p1 &&& (2147483647 : Int32))), .val (.int (p2 &&& (65535 : Int32))), .val (.double (FP.ddiv (FP.i2d (p2 &&& (65535 : Int32))) (4620693217682128896 : UInt64))), .second, .val (.double (FP.ddiv (FP.l2d (((p1 &&& (2147483647 : Int32))).toInt64 * ((p2 &&& (65535 : Int32))).toInt64)) (4620693217682128896 : UInt64))), .second] [(.double (FP.ddiv (FP.i2d (p2 &&& (65535 : Int32))) (4620693217682128896 : UInt64))), (.int (p1 &&& (2147483647 : Int32))), (.ref o1)])) (fun t kt => XS.dload X7.here hx rfl (hb hby at_107) rfl kt) ?_
      refine Go.virt X7 hx hZ hown (hw _ (List.mem_of_getElem? (i := 6) rfl)) (hw _ (List.mem_of_getElem? (i := 7) rfl)) (notFace_of_selects (mvT (args := #[]) hZ (hw _ (List.mem_of_getElem? (i := 9) rfl)))) (hw _ (List.mem_of_getElem? (i := 9) rfl)) (hw _ (List.mem_of_getElem? (i := 8) rfl)) (hw _ (List.mem_of_getElem? (i := 10) rfl)) (hw _ (List.mem_of_getElem? (i := 1) rfl)) (by decide) (b := o1) (argsL := [(.int (p1 &&& (2147483647 : Int32))), (.double (FP.ddiv (FP.i2d (p2 &&& (65535 : Int32))) (4620693217682128896 : UInt64)))]) (rest := []) (rmW1 l Z a0 hw o1 (p1 &&& (2147483647 : Int32)) (FP.ddiv (FP.i2d (p2 &&& (65535 : Int32))) (4620693217682128896 : UInt64)) (FP.dmul (FP.i2d (p1 &&& (2147483647 : Int32))) (FP.ddiv (FP.i2d (p2 &&& (65535 : Int32))) (4620693217682128896 : UInt64))) h0 n0 Z0 E_1 F_1 (own_f0 p1) rfl (own_8_nn (own_fm p1 p2))) e7 E_1 rfl (by rw [hml]; rfl) pd__ID_D rfl (hb hby at_109) 0 (Nat.le_refl _) (by decide) (by decide) (by decide) (by decide) ?_
      intro v8 T8 L8 X8 hQ8
      obtain ⟨hv8, N8', e8⟩ := hQ8
      subst hv8
      have N8 := Fr.app N0 N8'
      show Go pP eE below _ (T8.setTop (mkF m 112 #[.val (.int p0), .val (.int p1), .val (.int p2), .val (.int (p0 &&& (3 : Int32))), .val (.ref o1), .val (.int (p1 &&& (2147483647 : Int32))), .val (.int (p2 &&& (65535 : Int32))), .val (.double (FP.ddiv (FP.i2d (p2 &&& (65535 : Int32))) (4620693217682128896 : UInt64))), .second, .val (.double (FP.ddiv (FP.l2d (((p1 &&& (2147483647 : Int32))).toInt64 * ((p2 &&& (65535 : Int32))).toInt64)) (4620693217682128896 : UInt64))), .second] [(.double (FP.dmul (FP.i2d (p1 &&& (2147483647 : Int32))) (FP.ddiv (FP.i2d (p2 &&& (65535 : Int32))) (4620693217682128896 : UInt64))))]))
      refine Go.st (S' := T8.setTop (mkF m 114 #[.val (.int p0), .val (.int p1), .val (.int p2), .val (.int (p0 &&& (3 : Int32))), .val (.ref o1), .val (.int (p1 &&& (2147483647 : Int32))), .val (.int (p2 &&& (65535 : Int32))), .val (.double (FP.ddiv (FP.i2d (p2 &&& (65535 : Int32))) (4620693217682128896 : UInt64))), .second, .val (.double (FP.ddiv (FP.l2d (((p1 &&& (2147483647 : Int32))).toInt64 * ((p2 &&& (65535 : Int32))).toInt64)) (4620693217682128896 : UInt64))), .second] [(.double (FP.ddiv (FP.l2d (((p1 &&& (2147483647 : Int32))).toInt64 * ((p2 &&& (65535 : Int32))).toInt64)) (4620693217682128896 : UInt64))), (.double (FP.dmul (FP.i2d (p1 &&& (2147483647 : Int32))) (FP.ddiv (FP.i2d (p2 &&& (65535 : Int32))) (4620693217682128896 : UInt64))))])) (fun t kt => XS.dload X8.here hx rfl (hb hby at_112) rfl kt) ?_
      refine Go.st (S' := T8.setTop (mkF m 115 #[.val (.int p0), .val (.int p1), .val (.int p2), .val (.int (p0 &&& (3 : Int32))), .val (.ref o1), .val (.int (p1 &&& (2147483647 : Int32))), .val (.int (p2 &&& (65535 : Int32))), .val (.double (FP.ddiv (FP.i2d (p2 &&& (65535 : Int32))) (4620693217682128896 : UInt64))), .second, .val (.double (FP.ddiv (FP.l2d (((p1 &&& (2147483647 : Int32))).toInt64 * ((p2 &&& (65535 : Int32))).toInt64)) (4620693217682128896 : UInt64))), .second] [(.int (cmpValue (FP.dcmp (FP.dmul (FP.i2d (p1 &&& (2147483647 : Int32))) (FP.ddiv (FP.i2d (p2 &&& (65535 : Int32))) (4620693217682128896 : UInt64))) (FP.ddiv (FP.l2d (((p1 &&& (2147483647 : Int32))).toInt64 * ((p2 &&& (65535 : Int32))).toInt64)) (4620693217682128896 : UInt64))) .l))])) (fun t kt => XS.dcmpS X8.here hx rfl (hb hby at_114) rfl rfl kt) ?_
      refine Go.st (S' := T8.setTop (mkF m 118 #[.val (.int p0), .val (.int p1), .val (.int p2), .val (.int (p0 &&& (3 : Int32))), .val (.ref o1), .val (.int (p1 &&& (2147483647 : Int32))), .val (.int (p2 &&& (65535 : Int32))), .val (.double (FP.ddiv (FP.i2d (p2 &&& (65535 : Int32))) (4620693217682128896 : UInt64))), .second, .val (.double (FP.ddiv (FP.l2d (((p1 &&& (2147483647 : Int32))).toInt64 * ((p2 &&& (65535 : Int32))).toInt64)) (4620693217682128896 : UInt64))), .second] [])) (fun t kt => XS.ifNo X8.here hx rfl (hb hby at_115) rfl (XT.i0_ne_f (own_8_eq (own_fm p1 p2) (own_lm p1 p2) .l)) kt) ?_
      refine Go.st (S' := T8.setTop (mkF m 119 #[.val (.int p0), .val (.int p1), .val (.int p2), .val (.int (p0 &&& (3 : Int32))), .val (.ref o1), .val (.int (p1 &&& (2147483647 : Int32))), .val (.int (p2 &&& (65535 : Int32))), .val (.double (FP.ddiv (FP.i2d (p2 &&& (65535 : Int32))) (4620693217682128896 : UInt64))), .second, .val (.double (FP.ddiv (FP.l2d (((p1 &&& (2147483647 : Int32))).toInt64 * ((p2 &&& (65535 : Int32))).toInt64)) (4620693217682128896 : UInt64))), .second] [(.int (1 : Int32))])) (fun t kt => XS.iconst X8.here hx rfl (hb hby at_118) kt) ?_
      refine Go.st (S' := T8.setTop (mkF m 123 #[.val (.int p0), .val (.int p1), .val (.int p2), .val (.int (p0 &&& (3 : Int32))), .val (.ref o1), .val (.int (p1 &&& (2147483647 : Int32))), .val (.int (p2 &&& (65535 : Int32))), .val (.double (FP.ddiv (FP.i2d (p2 &&& (65535 : Int32))) (4620693217682128896 : UInt64))), .second, .val (.double (FP.ddiv (FP.l2d (((p1 &&& (2147483647 : Int32))).toInt64 * ((p2 &&& (65535 : Int32))).toInt64)) (4620693217682128896 : UInt64))), .second] [(.int (1 : Int32))])) (fun t kt => XS.goto X8.here hx rfl (pc0 := 119) (pc' := 123) rfl (hb hby at_119) (by decide) (by decide) kt) ?_
      exact ret_b X8 hx hlk hret (hb hby at_123) (by decide) (by decide) (⟨rfl, N8⟩)
    · refine Go.st (S' := T.setTop (mkF m 29 #[.val (.int p0), .val (.int p1), .val (.int p2), .val (.int (p0 &&& (3 : Int32))), .unset, .unset, .unset, .unset, .unset, .unset, .unset] [])) (fun t kt => XS.icmpYes X.here hx rfl (pc0 := 18) (pc' := 29) rfl (hb hby at_18) rfl (XT.ii_ne_t hc18_6) (by decide) (by decide) kt) ?_
      refine Go.st (S' := T.setTop (mkF m 30 #[.val (.int p0), .val (.int p1), .val (.int p2), .val (.int (p0 &&& (3 : Int32))), .unset, .unset, .unset, .unset, .unset, .unset, .unset] [(.int (p0 &&& (3 : Int32)))])) (fun t kt => XS.iloadN X.here hx rfl (hb hby at_29) rfl kt) ?_
      refine Go.st (S' := T.setTop (mkF m 31 #[.val (.int p0), .val (.int p1), .val (.int p2), .val (.int (p0 &&& (3 : Int32))), .unset, .unset, .unset, .unset, .unset, .unset, .unset] [(.int (2 : Int32)), (.int (p0 &&& (3 : Int32)))])) (fun t kt => XS.iconst X.here hx rfl (hb hby at_30) kt) ?_
      by_cases hc31_9 : (p0 &&& (3 : Int32)) = (2 : Int32)
      · refine Go.st (S' := T.setTop (mkF m 34 #[.val (.int p0), .val (.int p1), .val (.int p2), .val (.int (p0 &&& (3 : Int32))), .unset, .unset, .unset, .unset, .unset, .unset, .unset] [])) (fun t kt => XS.icmpNo X.here hx rfl (hb hby at_31) rfl (XT.ii_ne_f hc31_9) kt) ?_
        obtain ⟨T10, X10, e10, st10⟩ := getS X hx hZ (host := "") hown (hw _ (List.mem_of_getElem? (i := 24) rfl)) Via.refl eT S_2 (g := (mkF m 34 #[.val (.int p0), .val (.int p1), .val (.int p2), .val (.int (p0 &&& (3 : Int32))), .unset, .unset, .unset, .unset, .unset, .unset, .unset] [])) rfl (hb hby at_34)
        refine Go.st (S' := T10.setTop (mkF m 37 #[.val (.int p0), .val (.int p1), .val (.int p2), .val (.int (p0 &&& (3 : Int32))), .unset, .unset, .unset, .unset, .unset, .unset, .unset] [(.ref o2)])) (fun t kt => st10 t kt) ?_
        refine Go.st (S' := T10.setTop (mkF m 39 #[.val (.int p0), .val (.int p1), .val (.int p2), .val (.int (p0 &&& (3 : Int32))), .val (.ref o2), .unset, .unset, .unset, .unset, .unset, .unset] [])) (fun t kt => XS.astore X10.here hx rfl (hb hby at_37) rfl rfl rfl kt) ?_
        refine Go.st (S' := T10.setTop (mkF m 47 #[.val (.int p0), .val (.int p1), .val (.int p2), .val (.int (p0 &&& (3 : Int32))), .val (.ref o2), .unset, .unset, .unset, .unset, .unset, .unset] [])) (fun t kt => XS.goto X10.here hx rfl (pc0 := 39) (pc' := 47) rfl (hb hby at_39) (by decide) (by decide) kt) ?_
        refine Go.st (S' := T10.setTop (mkF m 48 #[.val (.int p0), .val (.int p1), .val (.int p2), .val (.int (p0 &&& (3 : Int32))), .val (.ref o2), .unset, .unset, .unset, .unset, .unset, .unset] [(.int p1)])) (fun t kt => XS.iloadN X10.here hx rfl (hb hby at_47) rfl kt) ?_
        refine Go.st (S' := T10.setTop (mkF m 50 #[.val (.int p0), .val (.int p1), .val (.int p2), .val (.int (p0 &&& (3 : Int32))), .val (.ref o2), .unset, .unset, .unset, .unset, .unset, .unset] [(.int (2147483647 : Int32)), (.int p1)])) (fun t kt => X10.ldcI hx hown (mv hZ (hw _ (List.mem_of_getElem? (i := 3) rfl))) rfl (hb hby at_48) kt) ?_
        refine Go.st (S' := T10.setTop (mkF m 51 #[.val (.int p0), .val (.int p1), .val (.int p2), .val (.int (p0 &&& (3 : Int32))), .val (.ref o2), .unset, .unset, .unset, .unset, .unset, .unset] [(.int (p1 &&& (2147483647 : Int32)))])) (fun t kt => XS.iand X10.here hx rfl (hb hby at_50) rfl kt) ?_
        refine Go.st (S' := T10.setTop (mkF m 53 #[.val (.int p0), .val (.int p1), .val (.int p2), .val (.int (p0 &&& (3 : Int32))), .val (.ref o2), .val (.int (p1 &&& (2147483647 : Int32))), .unset, .unset, .unset, .unset, .unset] [])) (fun t kt => XS.istore X10.here hx rfl (hb hby at_51) rfl rfl kt) ?_
        refine Go.st (S' := T10.setTop (mkF m 54 #[.val (.int p0), .val (.int p1), .val (.int p2), .val (.int (p0 &&& (3 : Int32))), .val (.ref o2), .val (.int (p1 &&& (2147483647 : Int32))), .unset, .unset, .unset, .unset, .unset] [(.int p2)])) (fun t kt => XS.iloadN X10.here hx rfl (hb hby at_53) rfl kt) ?_
        refine Go.st (S' := T10.setTop (mkF m 56 #[.val (.int p0), .val (.int p1), .val (.int p2), .val (.int (p0 &&& (3 : Int32))), .val (.ref o2), .val (.int (p1 &&& (2147483647 : Int32))), .unset, .unset, .unset, .unset, .unset] [(.int (65535 : Int32)), (.int p2)])) (fun t kt => X10.ldcI hx hown (mv hZ (hw _ (List.mem_of_getElem? (i := 4) rfl))) rfl (hb hby at_54) kt) ?_
        refine Go.st (S' := T10.setTop (mkF m 57 #[.val (.int p0), .val (.int p1), .val (.int p2), .val (.int (p0 &&& (3 : Int32))), .val (.ref o2), .val (.int (p1 &&& (2147483647 : Int32))), .unset, .unset, .unset, .unset, .unset] [(.int (p2 &&& (65535 : Int32)))])) (fun t kt => XS.iand X10.here hx rfl (hb hby at_56) rfl kt) ?_
        refine Go.st (S' := T10.setTop (mkF m 59 #[.val (.int p0), .val (.int p1), .val (.int p2), .val (.int (p0 &&& (3 : Int32))), .val (.ref o2), .val (.int (p1 &&& (2147483647 : Int32))), .val (.int (p2 &&& (65535 : Int32))), .unset, .unset, .unset, .unset] [])) (fun t kt => XS.istore X10.here hx rfl (hb hby at_57) rfl rfl kt) ?_
        refine Go.st (S' := T10.setTop (mkF m 61 #[.val (.int p0), .val (.int p1), .val (.int p2), .val (.int (p0 &&& (3 : Int32))), .val (.ref o2), .val (.int (p1 &&& (2147483647 : Int32))), .val (.int (p2 &&& (65535 : Int32))), .unset, .unset, .unset, .unset] [(.int (p2 &&& (65535 : Int32)))])) (fun t kt => XS.iload X10.here hx rfl (hb hby at_59) rfl kt) ?_
        refine Go.st (S' := T10.setTop (mkF m 62 #[.val (.int p0), .val (.int p1), .val (.int p2), .val (.int (p0 &&& (3 : Int32))), .val (.ref o2), .val (.int (p1 &&& (2147483647 : Int32))), .val (.int (p2 &&& (65535 : Int32))), .unset, .unset, .unset, .unset] [(.double (FP.i2d (p2 &&& (65535 : Int32))))])) (fun t kt => XS.i2dS X10.here hx rfl (hb hby at_61) rfl rfl kt) ?_
        refine Go.st (S' := T10.setTop (mkF m 65 #[.val (.int p0), .val (.int p1), .val (.int p2), .val (.int (p0 &&& (3 : Int32))), .val (.ref o2), .val (.int (p1 &&& (2147483647 : Int32))), .val (.int (p2 &&& (65535 : Int32))), .unset, .unset, .unset, .unset] [(.double (4620693217682128896 : UInt64)), (.double (FP.i2d (p2 &&& (65535 : Int32))))])) (fun t kt => X10.ldc2DoubleC hx hown (mv hZ (hw _ (List.mem_of_getElem? (i := 5) rfl))) (g := (mkF m 62 #[.val (.int p0), .val (.int p1), .val (.int p2), .val (.int (p0 &&& (3 : Int32))), .val (.ref o2), .val (.int (p1 &&& (2147483647 : Int32))), .val (.int (p2 &&& (65535 : Int32))), .unset, .unset, .unset, .unset] [(.double (FP.i2d (p2 &&& (65535 : Int32))))])) rfl (hb hby at_62) t kt) ?_
        refine Go.st (S' := T10.setTop (mkF m 66 #[.val (.int p0), .val (.int p1), .val (.int p2), .val (.int (p0 &&& (3 : Int32))), .val (.ref o2), .val (.int (p1 &&& (2147483647 : Int32))), .val (.int (p2 &&& (65535 : Int32))), .unset, .unset, .unset, .unset] [(.double (FP.ddiv (FP.i2d (p2 &&& (65535 : Int32))) (4620693217682128896 : UInt64)))])) (fun t kt => XS.ddivS X10.here hx rfl (hb hby at_65) rfl (own_8_nn (own_m8 _)) rfl kt) ?_
        refine Go.st (S' := T10.setTop (mkF m 68 #[.val (.int p0), .val (.int p1), .val (.int p2), .val (.int (p0 &&& (3 : Int32))), .val (.ref o2), .val (.int (p1 &&& (2147483647 : Int32))), .val (.int (p2 &&& (65535 : Int32))), .val (.double (FP.ddiv (FP.i2d (p2 &&& (65535 : Int32))) (4620693217682128896 : UInt64))), .second, .unset, .unset] [])) (fun t kt => XS.dstore X10.here hx rfl (hb hby at_66) rfl rfl kt) ?_
        refine Go.st (S' := T10.setTop (mkF m 69 #[.val (.int p0), .val (.int p1), .val (.int p2), .val (.int (p0 &&& (3 : Int32))), .val (.ref o2), .val (.int (p1 &&& (2147483647 : Int32))), .val (.int (p2 &&& (65535 : Int32))), .val (.double (FP.ddiv (FP.i2d (p2 &&& (65535 : Int32))) (4620693217682128896 : UInt64))), .second, .unset, .unset] [(.int (p0 &&& (3 : Int32)))])) (fun t kt => XS.iloadN X10.here hx rfl (hb hby at_68) rfl kt) ?_
        refine Go.st (S' := T10.setTop (mkF m 89 #[.val (.int p0), .val (.int p1), .val (.int p2), .val (.int (p0 &&& (3 : Int32))), .val (.ref o2), .val (.int (p1 &&& (2147483647 : Int32))), .val (.int (p2 &&& (65535 : Int32))), .val (.double (FP.ddiv (FP.i2d (p2 &&& (65535 : Int32))) (4620693217682128896 : UInt64))), .second, .unset, .unset] [])) (fun t kt => XS.ifYes X10.here hx rfl (pc0 := 69) (pc' := 89) rfl (hb hby at_69) rfl (XT.i0_ne_t hc5_1) (by decide) (by decide) kt) ?_
        refine Go.st (S' := T10.setTop (mkF m 91 #[.val (.int p0), .val (.int p1), .val (.int p2), .val (.int (p0 &&& (3 : Int32))), .val (.ref o2), .val (.int (p1 &&& (2147483647 : Int32))), .val (.int (p2 &&& (65535 : Int32))), .val (.double (FP.ddiv (FP.i2d (p2 &&& (65535 : Int32))) (4620693217682128896 : UInt64))), .second, .unset, .unset] [(.int (p1 &&& (2147483647 : Int32)))])) (fun t kt => XS.iload X10.here hx rfl (hb hby at_89) rfl kt) ?_
        refine Go.st (S' := T10.setTop (mkF m 92 #[.val (.int p0), .val (.int p1), .val (.int p2), .val (.int (p0 &&& (3 : Int32))), .val (.ref o2), .val (.int (p1 &&& (2147483647 : Int32))), .val (.int (p2 &&& (65535 : Int32))), .val (.double (FP.ddiv (FP.i2d (p2 &&& (65535 : Int32))) (4620693217682128896 : UInt64))), .second, .unset, .unset] [(.long ((p1 &&& (2147483647 : Int32))).toInt64)])) (fun t kt => XT.i2l X10.here hx rfl (hb hby at_91) rfl kt) ?_
        refine Go.st (S' := T10.setTop (mkF m 94 #[.val (.int p0), .val (.int p1), .val (.int p2), .val (.int (p0 &&& (3 : Int32))), .val (.ref o2), .val (.int (p1 &&& (2147483647 : Int32))), .val (.int (p2 &&& (65535 : Int32))), .val (.double (FP.ddiv (FP.i2d (p2 &&& (65535 : Int32))) (4620693217682128896 : UInt64))), .second, .unset, .unset] [(.int (p2 &&& (65535 : Int32))), (.long ((p1 &&& (2147483647 : Int32))).toInt64)])) (fun t kt => XS.iload X10.here hx rfl (hb hby at_92) rfl kt) ?_
        refine Go.st (S' := T10.setTop (mkF m 95 #[.val (.int p0), .val (.int p1), .val (.int p2), .val (.int (p0 &&& (3 : Int32))), .val (.ref o2), .val (.int (p1 &&& (2147483647 : Int32))), .val (.int (p2 &&& (65535 : Int32))), .val (.double (FP.ddiv (FP.i2d (p2 &&& (65535 : Int32))) (4620693217682128896 : UInt64))), .second, .unset, .unset] [(.long ((p2 &&& (65535 : Int32))).toInt64), (.long ((p1 &&& (2147483647 : Int32))).toInt64)])) (fun t kt => XT.i2l X10.here hx rfl (hb hby at_94) rfl kt) ?_
        refine Go.st (S' := T10.setTop (mkF m 96 #[.val (.int p0), .val (.int p1), .val (.int p2), .val (.int (p0 &&& (3 : Int32))), .val (.ref o2), .val (.int (p1 &&& (2147483647 : Int32))), .val (.int (p2 &&& (65535 : Int32))), .val (.double (FP.ddiv (FP.i2d (p2 &&& (65535 : Int32))) (4620693217682128896 : UInt64))), .second, .unset, .unset] [(.long (((p1 &&& (2147483647 : Int32))).toInt64 * ((p2 &&& (65535 : Int32))).toInt64))])) (fun t kt => XT.lmul X10.here hx rfl (hb hby at_95) rfl kt) ?_
        refine Go.st (S' := T10.setTop (mkF m 97 #[.val (.int p0), .val (.int p1), .val (.int p2), .val (.int (p0 &&& (3 : Int32))), .val (.ref o2), .val (.int (p1 &&& (2147483647 : Int32))), .val (.int (p2 &&& (65535 : Int32))), .val (.double (FP.ddiv (FP.i2d (p2 &&& (65535 : Int32))) (4620693217682128896 : UInt64))), .second, .unset, .unset] [(.double (FP.l2d (((p1 &&& (2147483647 : Int32))).toInt64 * ((p2 &&& (65535 : Int32))).toInt64)))])) (fun t kt => XS.l2dS X10.here hx rfl (hb hby at_96) rfl rfl kt) ?_
        refine Go.st (S' := T10.setTop (mkF m 100 #[.val (.int p0), .val (.int p1), .val (.int p2), .val (.int (p0 &&& (3 : Int32))), .val (.ref o2), .val (.int (p1 &&& (2147483647 : Int32))), .val (.int (p2 &&& (65535 : Int32))), .val (.double (FP.ddiv (FP.i2d (p2 &&& (65535 : Int32))) (4620693217682128896 : UInt64))), .second, .unset, .unset] [(.double (4620693217682128896 : UInt64)), (.double (FP.l2d (((p1 &&& (2147483647 : Int32))).toInt64 * ((p2 &&& (65535 : Int32))).toInt64)))])) (fun t kt => X10.ldc2DoubleC hx hown (mv hZ (hw _ (List.mem_of_getElem? (i := 5) rfl))) (g := (mkF m 97 #[.val (.int p0), .val (.int p1), .val (.int p2), .val (.int (p0 &&& (3 : Int32))), .val (.ref o2), .val (.int (p1 &&& (2147483647 : Int32))), .val (.int (p2 &&& (65535 : Int32))), .val (.double (FP.ddiv (FP.i2d (p2 &&& (65535 : Int32))) (4620693217682128896 : UInt64))), .second, .unset, .unset] [(.double (FP.l2d (((p1 &&& (2147483647 : Int32))).toInt64 * ((p2 &&& (65535 : Int32))).toInt64)))])) rfl (hb hby at_97) t kt) ?_
        refine Go.st (S' := T10.setTop (mkF m 101 #[.val (.int p0), .val (.int p1), .val (.int p2), .val (.int (p0 &&& (3 : Int32))), .val (.ref o2), .val (.int (p1 &&& (2147483647 : Int32))), .val (.int (p2 &&& (65535 : Int32))), .val (.double (FP.ddiv (FP.i2d (p2 &&& (65535 : Int32))) (4620693217682128896 : UInt64))), .second, .unset, .unset] [(.double (FP.ddiv (FP.l2d (((p1 &&& (2147483647 : Int32))).toInt64 * ((p2 &&& (65535 : Int32))).toInt64)) (4620693217682128896 : UInt64)))])) (fun t kt => XS.ddivS X10.here hx rfl (hb hby at_100) rfl (own_8_nn (own_lm p1 p2)) rfl kt) ?_
        refine Go.st (S' := T10.setTop (mkF m 103 #[.val (.int p0), .val (.int p1), .val (.int p2), .val (.int (p0 &&& (3 : Int32))), .val (.ref o2), .val (.int (p1 &&& (2147483647 : Int32))), .val (.int (p2 &&& (65535 : Int32))), .val (.double (FP.ddiv (FP.i2d (p2 &&& (65535 : Int32))) (4620693217682128896 : UInt64))), .second, .val (.double (FP.ddiv (FP.l2d (((p1 &&& (2147483647 : Int32))).toInt64 * ((p2 &&& (65535 : Int32))).toInt64)) (4620693217682128896 : UInt64))), .second] [])) (fun t kt => XS.dstore X10.here hx rfl (hb hby at_101) rfl rfl kt) ?_
        refine Go.st (S' := T10.setTop (mkF m 105 #[.val (.int p0), .val (.int p1), .val (.int p2), .val (.int (p0 &&& (3 : Int32))), .val (.ref o2), .val (.int (p1 &&& (2147483647 : Int32))), .val (.int (p2 &&& (65535 : Int32))), .val (.double (FP.ddiv (FP.i2d (p2 &&& (65535 : Int32))) (4620693217682128896 : UInt64))), .second, .val (.double (FP.ddiv (FP.l2d (((p1 &&& (2147483647 : Int32))).toInt64 * ((p2 &&& (65535 : Int32))).toInt64)) (4620693217682128896 : UInt64))), .second] [(.ref o2)])) (fun t kt => XS.aload X10.here hx rfl (hb hby at_103) rfl rfl kt) ?_
        refine Go.st (S' := T10.setTop (mkF m 107 #[.val (.int p0), .val (.int p1), .val (.int p2), .val (.int (p0 &&& (3 : Int32))), .val (.ref o2), .val (.int (p1 &&& (2147483647 : Int32))), .val (.int (p2 &&& (65535 : Int32))), .val (.double (FP.ddiv (FP.i2d (p2 &&& (65535 : Int32))) (4620693217682128896 : UInt64))), .second, .val (.double (FP.ddiv (FP.l2d (((p1 &&& (2147483647 : Int32))).toInt64 * ((p2 &&& (65535 : Int32))).toInt64)) (4620693217682128896 : UInt64))), .second] [(.int (p1 &&& (2147483647 : Int32))), (.ref o2)])) (fun t kt => XS.iload X10.here hx rfl (hb hby at_105) rfl kt) ?_
        refine Go.st (S' := T10.setTop (mkF m 109 #[.val (.int p0), .val (.int p1), .val (.int p2), .val (.int (p0 &&& (3 : Int32))), .val (.ref o2), .val (.int (p1 &&& (2147483647 : Int32))), .val (.int (p2 &&& (65535 : Int32))), .val (.double (FP.ddiv (FP.i2d (p2 &&& (65535 : Int32))) (4620693217682128896 : UInt64))), .second, .val (.double (FP.ddiv (FP.l2d (((p1 &&& (2147483647 : Int32))).toInt64 * ((p2 &&& (65535 : Int32))).toInt64)) (4620693217682128896 : UInt64))), .second] [(.double (FP.ddiv (FP.i2d (p2 &&& (65535 : Int32))) (4620693217682128896 : UInt64))), (.int (p1 &&& (2147483647 : Int32))), (.ref o2)])) (fun t kt => XS.dload X10.here hx rfl (hb hby at_107) rfl kt) ?_
        refine Go.virt X10 hx hZ hown (hw _ (List.mem_of_getElem? (i := 6) rfl)) (hw _ (List.mem_of_getElem? (i := 7) rfl)) (notFace_of_selects (mvT (args := #[]) hZ (hw _ (List.mem_of_getElem? (i := 9) rfl)))) (hw _ (List.mem_of_getElem? (i := 9) rfl)) (hw _ (List.mem_of_getElem? (i := 8) rfl)) (hw _ (List.mem_of_getElem? (i := 10) rfl)) (hw _ (List.mem_of_getElem? (i := 1) rfl)) (by decide) (b := o2) (argsL := [(.int (p1 &&& (2147483647 : Int32))), (.double (FP.ddiv (FP.i2d (p2 &&& (65535 : Int32))) (4620693217682128896 : UInt64)))]) (rest := []) (rmW2 l Z a0 hw o2 (p1 &&& (2147483647 : Int32)) (FP.ddiv (FP.i2d (p2 &&& (65535 : Int32))) (4620693217682128896 : UInt64)) (FP.dmul (FP.i2d (p1 &&& (2147483647 : Int32))) (FP.ddiv (FP.i2d (p2 &&& (65535 : Int32))) (4620693217682128896 : UInt64))) h0 n0 Z0 E_2 F_2 (own_f0 p1) rfl (own_8_nn (own_fm p1 p2))) e10 E_2 rfl (by rw [hml]; rfl) pd__ID_D rfl (hb hby at_109) 0 (Nat.le_refl _) (by decide) (by decide) (by decide) (by decide) ?_
        intro v11 T11 L11 X11 hQ11
        obtain ⟨hv11, N11', e11⟩ := hQ11
        subst hv11
        have N11 := Fr.app N0 N11'
        show Go pP eE below _ (T11.setTop (mkF m 112 #[.val (.int p0), .val (.int p1), .val (.int p2), .val (.int (p0 &&& (3 : Int32))), .val (.ref o2), .val (.int (p1 &&& (2147483647 : Int32))), .val (.int (p2 &&& (65535 : Int32))), .val (.double (FP.ddiv (FP.i2d (p2 &&& (65535 : Int32))) (4620693217682128896 : UInt64))), .second, .val (.double (FP.ddiv (FP.l2d (((p1 &&& (2147483647 : Int32))).toInt64 * ((p2 &&& (65535 : Int32))).toInt64)) (4620693217682128896 : UInt64))), .second] [(.double (FP.dmul (FP.i2d (p1 &&& (2147483647 : Int32))) (FP.ddiv (FP.i2d (p2 &&& (65535 : Int32))) (4620693217682128896 : UInt64))))]))
        refine Go.st (S' := T11.setTop (mkF m 114 #[.val (.int p0), .val (.int p1), .val (.int p2), .val (.int (p0 &&& (3 : Int32))), .val (.ref o2), .val (.int (p1 &&& (2147483647 : Int32))), .val (.int (p2 &&& (65535 : Int32))), .val (.double (FP.ddiv (FP.i2d (p2 &&& (65535 : Int32))) (4620693217682128896 : UInt64))), .second, .val (.double (FP.ddiv (FP.l2d (((p1 &&& (2147483647 : Int32))).toInt64 * ((p2 &&& (65535 : Int32))).toInt64)) (4620693217682128896 : UInt64))), .second] [(.double (FP.ddiv (FP.l2d (((p1 &&& (2147483647 : Int32))).toInt64 * ((p2 &&& (65535 : Int32))).toInt64)) (4620693217682128896 : UInt64))), (.double (FP.dmul (FP.i2d (p1 &&& (2147483647 : Int32))) (FP.ddiv (FP.i2d (p2 &&& (65535 : Int32))) (4620693217682128896 : UInt64))))])) (fun t kt => XS.dload X11.here hx rfl (hb hby at_112) rfl kt) ?_
        refine Go.st (S' := T11.setTop (mkF m 115 #[.val (.int p0), .val (.int p1), .val (.int p2), .val (.int (p0 &&& (3 : Int32))), .val (.ref o2), .val (.int (p1 &&& (2147483647 : Int32))), .val (.int (p2 &&& (65535 : Int32))), .val (.double (FP.ddiv (FP.i2d (p2 &&& (65535 : Int32))) (4620693217682128896 : UInt64))), .second, .val (.double (FP.ddiv (FP.l2d (((p1 &&& (2147483647 : Int32))).toInt64 * ((p2 &&& (65535 : Int32))).toInt64)) (4620693217682128896 : UInt64))), .second] [(.int (cmpValue (FP.dcmp (FP.dmul (FP.i2d (p1 &&& (2147483647 : Int32))) (FP.ddiv (FP.i2d (p2 &&& (65535 : Int32))) (4620693217682128896 : UInt64))) (FP.ddiv (FP.l2d (((p1 &&& (2147483647 : Int32))).toInt64 * ((p2 &&& (65535 : Int32))).toInt64)) (4620693217682128896 : UInt64))) .l))])) (fun t kt => XS.dcmpS X11.here hx rfl (hb hby at_114) rfl rfl kt) ?_
        refine Go.st (S' := T11.setTop (mkF m 118 #[.val (.int p0), .val (.int p1), .val (.int p2), .val (.int (p0 &&& (3 : Int32))), .val (.ref o2), .val (.int (p1 &&& (2147483647 : Int32))), .val (.int (p2 &&& (65535 : Int32))), .val (.double (FP.ddiv (FP.i2d (p2 &&& (65535 : Int32))) (4620693217682128896 : UInt64))), .second, .val (.double (FP.ddiv (FP.l2d (((p1 &&& (2147483647 : Int32))).toInt64 * ((p2 &&& (65535 : Int32))).toInt64)) (4620693217682128896 : UInt64))), .second] [])) (fun t kt => XS.ifNo X11.here hx rfl (hb hby at_115) rfl (XT.i0_ne_f (own_8_eq (own_fm p1 p2) (own_lm p1 p2) .l)) kt) ?_
        refine Go.st (S' := T11.setTop (mkF m 119 #[.val (.int p0), .val (.int p1), .val (.int p2), .val (.int (p0 &&& (3 : Int32))), .val (.ref o2), .val (.int (p1 &&& (2147483647 : Int32))), .val (.int (p2 &&& (65535 : Int32))), .val (.double (FP.ddiv (FP.i2d (p2 &&& (65535 : Int32))) (4620693217682128896 : UInt64))), .second, .val (.double (FP.ddiv (FP.l2d (((p1 &&& (2147483647 : Int32))).toInt64 * ((p2 &&& (65535 : Int32))).toInt64)) (4620693217682128896 : UInt64))), .second] [(.int (1 : Int32))])) (fun t kt => XS.iconst X11.here hx rfl (hb hby at_118) kt) ?_
        refine Go.st (S' := T11.setTop (mkF m 123 #[.val (.int p0), .val (.int p1), .val (.int p2), .val (.int (p0 &&& (3 : Int32))), .val (.ref o2), .val (.int (p1 &&& (2147483647 : Int32))), .val (.int (p2 &&& (65535 : Int32))), .val (.double (FP.ddiv (FP.i2d (p2 &&& (65535 : Int32))) (4620693217682128896 : UInt64))), .second, .val (.double (FP.ddiv (FP.l2d (((p1 &&& (2147483647 : Int32))).toInt64 * ((p2 &&& (65535 : Int32))).toInt64)) (4620693217682128896 : UInt64))), .second] [(.int (1 : Int32))])) (fun t kt => XS.goto X11.here hx rfl (pc0 := 119) (pc' := 123) rfl (hb hby at_119) (by decide) (by decide) kt) ?_
        exact ret_b X11 hx hlk hret (hb hby at_123) (by decide) (by decide) (⟨rfl, N11⟩)
      · refine Go.st (S' := T.setTop (mkF m 42 #[.val (.int p0), .val (.int p1), .val (.int p2), .val (.int (p0 &&& (3 : Int32))), .unset, .unset, .unset, .unset, .unset, .unset, .unset] [])) (fun t kt => XS.icmpYes X.here hx rfl (pc0 := 31) (pc' := 42) rfl (hb hby at_31) rfl (XT.ii_ne_t hc31_9) (by decide) (by decide) kt) ?_
        obtain ⟨T12, X12, e12, st12⟩ := getS X hx hZ (host := "") hown (hw _ (List.mem_of_getElem? (i := 22) rfl)) Via.refl eT S_3 (g := (mkF m 42 #[.val (.int p0), .val (.int p1), .val (.int p2), .val (.int (p0 &&& (3 : Int32))), .unset, .unset, .unset, .unset, .unset, .unset, .unset] [])) rfl (hb hby at_42)
        refine Go.st (S' := T12.setTop (mkF m 45 #[.val (.int p0), .val (.int p1), .val (.int p2), .val (.int (p0 &&& (3 : Int32))), .unset, .unset, .unset, .unset, .unset, .unset, .unset] [(.ref o3)])) (fun t kt => st12 t kt) ?_
        refine Go.st (S' := T12.setTop (mkF m 47 #[.val (.int p0), .val (.int p1), .val (.int p2), .val (.int (p0 &&& (3 : Int32))), .val (.ref o3), .unset, .unset, .unset, .unset, .unset, .unset] [])) (fun t kt => XS.astore X12.here hx rfl (hb hby at_45) rfl rfl rfl kt) ?_
        refine Go.st (S' := T12.setTop (mkF m 48 #[.val (.int p0), .val (.int p1), .val (.int p2), .val (.int (p0 &&& (3 : Int32))), .val (.ref o3), .unset, .unset, .unset, .unset, .unset, .unset] [(.int p1)])) (fun t kt => XS.iloadN X12.here hx rfl (hb hby at_47) rfl kt) ?_
        refine Go.st (S' := T12.setTop (mkF m 50 #[.val (.int p0), .val (.int p1), .val (.int p2), .val (.int (p0 &&& (3 : Int32))), .val (.ref o3), .unset, .unset, .unset, .unset, .unset, .unset] [(.int (2147483647 : Int32)), (.int p1)])) (fun t kt => X12.ldcI hx hown (mv hZ (hw _ (List.mem_of_getElem? (i := 3) rfl))) rfl (hb hby at_48) kt) ?_
        refine Go.st (S' := T12.setTop (mkF m 51 #[.val (.int p0), .val (.int p1), .val (.int p2), .val (.int (p0 &&& (3 : Int32))), .val (.ref o3), .unset, .unset, .unset, .unset, .unset, .unset] [(.int (p1 &&& (2147483647 : Int32)))])) (fun t kt => XS.iand X12.here hx rfl (hb hby at_50) rfl kt) ?_
        refine Go.st (S' := T12.setTop (mkF m 53 #[.val (.int p0), .val (.int p1), .val (.int p2), .val (.int (p0 &&& (3 : Int32))), .val (.ref o3), .val (.int (p1 &&& (2147483647 : Int32))), .unset, .unset, .unset, .unset, .unset] [])) (fun t kt => XS.istore X12.here hx rfl (hb hby at_51) rfl rfl kt) ?_
        refine Go.st (S' := T12.setTop (mkF m 54 #[.val (.int p0), .val (.int p1), .val (.int p2), .val (.int (p0 &&& (3 : Int32))), .val (.ref o3), .val (.int (p1 &&& (2147483647 : Int32))), .unset, .unset, .unset, .unset, .unset] [(.int p2)])) (fun t kt => XS.iloadN X12.here hx rfl (hb hby at_53) rfl kt) ?_
        refine Go.st (S' := T12.setTop (mkF m 56 #[.val (.int p0), .val (.int p1), .val (.int p2), .val (.int (p0 &&& (3 : Int32))), .val (.ref o3), .val (.int (p1 &&& (2147483647 : Int32))), .unset, .unset, .unset, .unset, .unset] [(.int (65535 : Int32)), (.int p2)])) (fun t kt => X12.ldcI hx hown (mv hZ (hw _ (List.mem_of_getElem? (i := 4) rfl))) rfl (hb hby at_54) kt) ?_
        refine Go.st (S' := T12.setTop (mkF m 57 #[.val (.int p0), .val (.int p1), .val (.int p2), .val (.int (p0 &&& (3 : Int32))), .val (.ref o3), .val (.int (p1 &&& (2147483647 : Int32))), .unset, .unset, .unset, .unset, .unset] [(.int (p2 &&& (65535 : Int32)))])) (fun t kt => XS.iand X12.here hx rfl (hb hby at_56) rfl kt) ?_
        refine Go.st (S' := T12.setTop (mkF m 59 #[.val (.int p0), .val (.int p1), .val (.int p2), .val (.int (p0 &&& (3 : Int32))), .val (.ref o3), .val (.int (p1 &&& (2147483647 : Int32))), .val (.int (p2 &&& (65535 : Int32))), .unset, .unset, .unset, .unset] [])) (fun t kt => XS.istore X12.here hx rfl (hb hby at_57) rfl rfl kt) ?_
        refine Go.st (S' := T12.setTop (mkF m 61 #[.val (.int p0), .val (.int p1), .val (.int p2), .val (.int (p0 &&& (3 : Int32))), .val (.ref o3), .val (.int (p1 &&& (2147483647 : Int32))), .val (.int (p2 &&& (65535 : Int32))), .unset, .unset, .unset, .unset] [(.int (p2 &&& (65535 : Int32)))])) (fun t kt => XS.iload X12.here hx rfl (hb hby at_59) rfl kt) ?_
        refine Go.st (S' := T12.setTop (mkF m 62 #[.val (.int p0), .val (.int p1), .val (.int p2), .val (.int (p0 &&& (3 : Int32))), .val (.ref o3), .val (.int (p1 &&& (2147483647 : Int32))), .val (.int (p2 &&& (65535 : Int32))), .unset, .unset, .unset, .unset] [(.double (FP.i2d (p2 &&& (65535 : Int32))))])) (fun t kt => XS.i2dS X12.here hx rfl (hb hby at_61) rfl rfl kt) ?_
        refine Go.st (S' := T12.setTop (mkF m 65 #[.val (.int p0), .val (.int p1), .val (.int p2), .val (.int (p0 &&& (3 : Int32))), .val (.ref o3), .val (.int (p1 &&& (2147483647 : Int32))), .val (.int (p2 &&& (65535 : Int32))), .unset, .unset, .unset, .unset] [(.double (4620693217682128896 : UInt64)), (.double (FP.i2d (p2 &&& (65535 : Int32))))])) (fun t kt => X12.ldc2DoubleC hx hown (mv hZ (hw _ (List.mem_of_getElem? (i := 5) rfl))) (g := (mkF m 62 #[.val (.int p0), .val (.int p1), .val (.int p2), .val (.int (p0 &&& (3 : Int32))), .val (.ref o3), .val (.int (p1 &&& (2147483647 : Int32))), .val (.int (p2 &&& (65535 : Int32))), .unset, .unset, .unset, .unset] [(.double (FP.i2d (p2 &&& (65535 : Int32))))])) rfl (hb hby at_62) t kt) ?_
        refine Go.st (S' := T12.setTop (mkF m 66 #[.val (.int p0), .val (.int p1), .val (.int p2), .val (.int (p0 &&& (3 : Int32))), .val (.ref o3), .val (.int (p1 &&& (2147483647 : Int32))), .val (.int (p2 &&& (65535 : Int32))), .unset, .unset, .unset, .unset] [(.double (FP.ddiv (FP.i2d (p2 &&& (65535 : Int32))) (4620693217682128896 : UInt64)))])) (fun t kt => XS.ddivS X12.here hx rfl (hb hby at_65) rfl (own_8_nn (own_m8 _)) rfl kt) ?_
        refine Go.st (S' := T12.setTop (mkF m 68 #[.val (.int p0), .val (.int p1), .val (.int p2), .val (.int (p0 &&& (3 : Int32))), .val (.ref o3), .val (.int (p1 &&& (2147483647 : Int32))), .val (.int (p2 &&& (65535 : Int32))), .val (.double (FP.ddiv (FP.i2d (p2 &&& (65535 : Int32))) (4620693217682128896 : UInt64))), .second, .unset, .unset] [])) (fun t kt => XS.dstore X12.here hx rfl (hb hby at_66) rfl rfl kt) ?_
        refine Go.st (S' := T12.setTop (mkF m 69 #[.val (.int p0), .val (.int p1), .val (.int p2), .val (.int (p0 &&& (3 : Int32))), .val (.ref o3), .val (.int (p1 &&& (2147483647 : Int32))), .val (.int (p2 &&& (65535 : Int32))), .val (.double (FP.ddiv (FP.i2d (p2 &&& (65535 : Int32))) (4620693217682128896 : UInt64))), .second, .unset, .unset] [(.int (p0 &&& (3 : Int32)))])) (fun t kt => XS.iloadN X12.here hx rfl (hb hby at_68) rfl kt) ?_
        refine Go.st (S' := T12.setTop (mkF m 89 #[.val (.int p0), .val (.int p1), .val (.int p2), .val (.int (p0 &&& (3 : Int32))), .val (.ref o3), .val (.int (p1 &&& (2147483647 : Int32))), .val (.int (p2 &&& (65535 : Int32))), .val (.double (FP.ddiv (FP.i2d (p2 &&& (65535 : Int32))) (4620693217682128896 : UInt64))), .second, .unset, .unset] [])) (fun t kt => XS.ifYes X12.here hx rfl (pc0 := 69) (pc' := 89) rfl (hb hby at_69) rfl (XT.i0_ne_t hc5_1) (by decide) (by decide) kt) ?_
        refine Go.st (S' := T12.setTop (mkF m 91 #[.val (.int p0), .val (.int p1), .val (.int p2), .val (.int (p0 &&& (3 : Int32))), .val (.ref o3), .val (.int (p1 &&& (2147483647 : Int32))), .val (.int (p2 &&& (65535 : Int32))), .val (.double (FP.ddiv (FP.i2d (p2 &&& (65535 : Int32))) (4620693217682128896 : UInt64))), .second, .unset, .unset] [(.int (p1 &&& (2147483647 : Int32)))])) (fun t kt => XS.iload X12.here hx rfl (hb hby at_89) rfl kt) ?_
        refine Go.st (S' := T12.setTop (mkF m 92 #[.val (.int p0), .val (.int p1), .val (.int p2), .val (.int (p0 &&& (3 : Int32))), .val (.ref o3), .val (.int (p1 &&& (2147483647 : Int32))), .val (.int (p2 &&& (65535 : Int32))), .val (.double (FP.ddiv (FP.i2d (p2 &&& (65535 : Int32))) (4620693217682128896 : UInt64))), .second, .unset, .unset] [(.long ((p1 &&& (2147483647 : Int32))).toInt64)])) (fun t kt => XT.i2l X12.here hx rfl (hb hby at_91) rfl kt) ?_
        refine Go.st (S' := T12.setTop (mkF m 94 #[.val (.int p0), .val (.int p1), .val (.int p2), .val (.int (p0 &&& (3 : Int32))), .val (.ref o3), .val (.int (p1 &&& (2147483647 : Int32))), .val (.int (p2 &&& (65535 : Int32))), .val (.double (FP.ddiv (FP.i2d (p2 &&& (65535 : Int32))) (4620693217682128896 : UInt64))), .second, .unset, .unset] [(.int (p2 &&& (65535 : Int32))), (.long ((p1 &&& (2147483647 : Int32))).toInt64)])) (fun t kt => XS.iload X12.here hx rfl (hb hby at_92) rfl kt) ?_
        refine Go.st (S' := T12.setTop (mkF m 95 #[.val (.int p0), .val (.int p1), .val (.int p2), .val (.int (p0 &&& (3 : Int32))), .val (.ref o3), .val (.int (p1 &&& (2147483647 : Int32))), .val (.int (p2 &&& (65535 : Int32))), .val (.double (FP.ddiv (FP.i2d (p2 &&& (65535 : Int32))) (4620693217682128896 : UInt64))), .second, .unset, .unset] [(.long ((p2 &&& (65535 : Int32))).toInt64), (.long ((p1 &&& (2147483647 : Int32))).toInt64)])) (fun t kt => XT.i2l X12.here hx rfl (hb hby at_94) rfl kt) ?_
        refine Go.st (S' := T12.setTop (mkF m 96 #[.val (.int p0), .val (.int p1), .val (.int p2), .val (.int (p0 &&& (3 : Int32))), .val (.ref o3), .val (.int (p1 &&& (2147483647 : Int32))), .val (.int (p2 &&& (65535 : Int32))), .val (.double (FP.ddiv (FP.i2d (p2 &&& (65535 : Int32))) (4620693217682128896 : UInt64))), .second, .unset, .unset] [(.long (((p1 &&& (2147483647 : Int32))).toInt64 * ((p2 &&& (65535 : Int32))).toInt64))])) (fun t kt => XT.lmul X12.here hx rfl (hb hby at_95) rfl kt) ?_
        refine Go.st (S' := T12.setTop (mkF m 97 #[.val (.int p0), .val (.int p1), .val (.int p2), .val (.int (p0 &&& (3 : Int32))), .val (.ref o3), .val (.int (p1 &&& (2147483647 : Int32))), .val (.int (p2 &&& (65535 : Int32))), .val (.double (FP.ddiv (FP.i2d (p2 &&& (65535 : Int32))) (4620693217682128896 : UInt64))), .second, .unset, .unset] [(.double (FP.l2d (((p1 &&& (2147483647 : Int32))).toInt64 * ((p2 &&& (65535 : Int32))).toInt64)))])) (fun t kt => XS.l2dS X12.here hx rfl (hb hby at_96) rfl rfl kt) ?_
        refine Go.st (S' := T12.setTop (mkF m 100 #[.val (.int p0), .val (.int p1), .val (.int p2), .val (.int (p0 &&& (3 : Int32))), .val (.ref o3), .val (.int (p1 &&& (2147483647 : Int32))), .val (.int (p2 &&& (65535 : Int32))), .val (.double (FP.ddiv (FP.i2d (p2 &&& (65535 : Int32))) (4620693217682128896 : UInt64))), .second, .unset, .unset] [(.double (4620693217682128896 : UInt64)), (.double (FP.l2d (((p1 &&& (2147483647 : Int32))).toInt64 * ((p2 &&& (65535 : Int32))).toInt64)))])) (fun t kt => X12.ldc2DoubleC hx hown (mv hZ (hw _ (List.mem_of_getElem? (i := 5) rfl))) (g := (mkF m 97 #[.val (.int p0), .val (.int p1), .val (.int p2), .val (.int (p0 &&& (3 : Int32))), .val (.ref o3), .val (.int (p1 &&& (2147483647 : Int32))), .val (.int (p2 &&& (65535 : Int32))), .val (.double (FP.ddiv (FP.i2d (p2 &&& (65535 : Int32))) (4620693217682128896 : UInt64))), .second, .unset, .unset] [(.double (FP.l2d (((p1 &&& (2147483647 : Int32))).toInt64 * ((p2 &&& (65535 : Int32))).toInt64)))])) rfl (hb hby at_97) t kt) ?_
        refine Go.st (S' := T12.setTop (mkF m 101 #[.val (.int p0), .val (.int p1), .val (.int p2), .val (.int (p0 &&& (3 : Int32))), .val (.ref o3), .val (.int (p1 &&& (2147483647 : Int32))), .val (.int (p2 &&& (65535 : Int32))), .val (.double (FP.ddiv (FP.i2d (p2 &&& (65535 : Int32))) (4620693217682128896 : UInt64))), .second, .unset, .unset] [(.double (FP.ddiv (FP.l2d (((p1 &&& (2147483647 : Int32))).toInt64 * ((p2 &&& (65535 : Int32))).toInt64)) (4620693217682128896 : UInt64)))])) (fun t kt => XS.ddivS X12.here hx rfl (hb hby at_100) rfl (own_8_nn (own_lm p1 p2)) rfl kt) ?_
        refine Go.st (S' := T12.setTop (mkF m 103 #[.val (.int p0), .val (.int p1), .val (.int p2), .val (.int (p0 &&& (3 : Int32))), .val (.ref o3), .val (.int (p1 &&& (2147483647 : Int32))), .val (.int (p2 &&& (65535 : Int32))), .val (.double (FP.ddiv (FP.i2d (p2 &&& (65535 : Int32))) (4620693217682128896 : UInt64))), .second, .val (.double (FP.ddiv (FP.l2d (((p1 &&& (2147483647 : Int32))).toInt64 * ((p2 &&& (65535 : Int32))).toInt64)) (4620693217682128896 : UInt64))), .second] [])) (fun t kt => XS.dstore X12.here hx rfl (hb hby at_101) rfl rfl kt) ?_
        refine Go.st (S' := T12.setTop (mkF m 105 #[.val (.int p0), .val (.int p1), .val (.int p2), .val (.int (p0 &&& (3 : Int32))), .val (.ref o3), .val (.int (p1 &&& (2147483647 : Int32))), .val (.int (p2 &&& (65535 : Int32))), .val (.double (FP.ddiv (FP.i2d (p2 &&& (65535 : Int32))) (4620693217682128896 : UInt64))), .second, .val (.double (FP.ddiv (FP.l2d (((p1 &&& (2147483647 : Int32))).toInt64 * ((p2 &&& (65535 : Int32))).toInt64)) (4620693217682128896 : UInt64))), .second] [(.ref o3)])) (fun t kt => XS.aload X12.here hx rfl (hb hby at_103) rfl rfl kt) ?_
        refine Go.st (S' := T12.setTop (mkF m 107 #[.val (.int p0), .val (.int p1), .val (.int p2), .val (.int (p0 &&& (3 : Int32))), .val (.ref o3), .val (.int (p1 &&& (2147483647 : Int32))), .val (.int (p2 &&& (65535 : Int32))), .val (.double (FP.ddiv (FP.i2d (p2 &&& (65535 : Int32))) (4620693217682128896 : UInt64))), .second, .val (.double (FP.ddiv (FP.l2d (((p1 &&& (2147483647 : Int32))).toInt64 * ((p2 &&& (65535 : Int32))).toInt64)) (4620693217682128896 : UInt64))), .second] [(.int (p1 &&& (2147483647 : Int32))), (.ref o3)])) (fun t kt => XS.iload X12.here hx rfl (hb hby at_105) rfl kt) ?_
        refine Go.st (S' := T12.setTop (mkF m 109 #[.val (.int p0), .val (.int p1), .val (.int p2), .val (.int (p0 &&& (3 : Int32))), .val (.ref o3), .val (.int (p1 &&& (2147483647 : Int32))), .val (.int (p2 &&& (65535 : Int32))), .val (.double (FP.ddiv (FP.i2d (p2 &&& (65535 : Int32))) (4620693217682128896 : UInt64))), .second, .val (.double (FP.ddiv (FP.l2d (((p1 &&& (2147483647 : Int32))).toInt64 * ((p2 &&& (65535 : Int32))).toInt64)) (4620693217682128896 : UInt64))), .second] [(.double (FP.ddiv (FP.i2d (p2 &&& (65535 : Int32))) (4620693217682128896 : UInt64))), (.int (p1 &&& (2147483647 : Int32))), (.ref o3)])) (fun t kt => XS.dload X12.here hx rfl (hb hby at_107) rfl kt) ?_
        refine Go.virt X12 hx hZ hown (hw _ (List.mem_of_getElem? (i := 6) rfl)) (hw _ (List.mem_of_getElem? (i := 7) rfl)) (notFace_of_selects (mvT (args := #[]) hZ (hw _ (List.mem_of_getElem? (i := 9) rfl)))) (hw _ (List.mem_of_getElem? (i := 9) rfl)) (hw _ (List.mem_of_getElem? (i := 8) rfl)) (hw _ (List.mem_of_getElem? (i := 10) rfl)) (hw _ (List.mem_of_getElem? (i := 1) rfl)) (by decide) (b := o3) (argsL := [(.int (p1 &&& (2147483647 : Int32))), (.double (FP.ddiv (FP.i2d (p2 &&& (65535 : Int32))) (4620693217682128896 : UInt64)))]) (rest := []) (rmW3 l Z a0 hw o3 (p1 &&& (2147483647 : Int32)) (FP.ddiv (FP.i2d (p2 &&& (65535 : Int32))) (4620693217682128896 : UInt64)) (FP.dmul (FP.i2d (p1 &&& (2147483647 : Int32))) (FP.ddiv (FP.i2d (p2 &&& (65535 : Int32))) (4620693217682128896 : UInt64))) h0 n0 Z0 E_3 F_3 (own_f0 p1) rfl (own_8_nn (own_fm p1 p2))) e12 E_3 rfl (by rw [hml]; rfl) pd__ID_D rfl (hb hby at_109) 0 (Nat.le_refl _) (by decide) (by decide) (by decide) (by decide) ?_
        intro v13 T13 L13 X13 hQ13
        obtain ⟨hv13, N13', e13⟩ := hQ13
        subst hv13
        have N13 := Fr.app N0 N13'
        show Go pP eE below _ (T13.setTop (mkF m 112 #[.val (.int p0), .val (.int p1), .val (.int p2), .val (.int (p0 &&& (3 : Int32))), .val (.ref o3), .val (.int (p1 &&& (2147483647 : Int32))), .val (.int (p2 &&& (65535 : Int32))), .val (.double (FP.ddiv (FP.i2d (p2 &&& (65535 : Int32))) (4620693217682128896 : UInt64))), .second, .val (.double (FP.ddiv (FP.l2d (((p1 &&& (2147483647 : Int32))).toInt64 * ((p2 &&& (65535 : Int32))).toInt64)) (4620693217682128896 : UInt64))), .second] [(.double (FP.dmul (FP.i2d (p1 &&& (2147483647 : Int32))) (FP.ddiv (FP.i2d (p2 &&& (65535 : Int32))) (4620693217682128896 : UInt64))))]))
        refine Go.st (S' := T13.setTop (mkF m 114 #[.val (.int p0), .val (.int p1), .val (.int p2), .val (.int (p0 &&& (3 : Int32))), .val (.ref o3), .val (.int (p1 &&& (2147483647 : Int32))), .val (.int (p2 &&& (65535 : Int32))), .val (.double (FP.ddiv (FP.i2d (p2 &&& (65535 : Int32))) (4620693217682128896 : UInt64))), .second, .val (.double (FP.ddiv (FP.l2d (((p1 &&& (2147483647 : Int32))).toInt64 * ((p2 &&& (65535 : Int32))).toInt64)) (4620693217682128896 : UInt64))), .second] [(.double (FP.ddiv (FP.l2d (((p1 &&& (2147483647 : Int32))).toInt64 * ((p2 &&& (65535 : Int32))).toInt64)) (4620693217682128896 : UInt64))), (.double (FP.dmul (FP.i2d (p1 &&& (2147483647 : Int32))) (FP.ddiv (FP.i2d (p2 &&& (65535 : Int32))) (4620693217682128896 : UInt64))))])) (fun t kt => XS.dload X13.here hx rfl (hb hby at_112) rfl kt) ?_
        refine Go.st (S' := T13.setTop (mkF m 115 #[.val (.int p0), .val (.int p1), .val (.int p2), .val (.int (p0 &&& (3 : Int32))), .val (.ref o3), .val (.int (p1 &&& (2147483647 : Int32))), .val (.int (p2 &&& (65535 : Int32))), .val (.double (FP.ddiv (FP.i2d (p2 &&& (65535 : Int32))) (4620693217682128896 : UInt64))), .second, .val (.double (FP.ddiv (FP.l2d (((p1 &&& (2147483647 : Int32))).toInt64 * ((p2 &&& (65535 : Int32))).toInt64)) (4620693217682128896 : UInt64))), .second] [(.int (cmpValue (FP.dcmp (FP.dmul (FP.i2d (p1 &&& (2147483647 : Int32))) (FP.ddiv (FP.i2d (p2 &&& (65535 : Int32))) (4620693217682128896 : UInt64))) (FP.ddiv (FP.l2d (((p1 &&& (2147483647 : Int32))).toInt64 * ((p2 &&& (65535 : Int32))).toInt64)) (4620693217682128896 : UInt64))) .l))])) (fun t kt => XS.dcmpS X13.here hx rfl (hb hby at_114) rfl rfl kt) ?_
        refine Go.st (S' := T13.setTop (mkF m 118 #[.val (.int p0), .val (.int p1), .val (.int p2), .val (.int (p0 &&& (3 : Int32))), .val (.ref o3), .val (.int (p1 &&& (2147483647 : Int32))), .val (.int (p2 &&& (65535 : Int32))), .val (.double (FP.ddiv (FP.i2d (p2 &&& (65535 : Int32))) (4620693217682128896 : UInt64))), .second, .val (.double (FP.ddiv (FP.l2d (((p1 &&& (2147483647 : Int32))).toInt64 * ((p2 &&& (65535 : Int32))).toInt64)) (4620693217682128896 : UInt64))), .second] [])) (fun t kt => XS.ifNo X13.here hx rfl (hb hby at_115) rfl (XT.i0_ne_f (own_8_eq (own_fm p1 p2) (own_lm p1 p2) .l)) kt) ?_
        refine Go.st (S' := T13.setTop (mkF m 119 #[.val (.int p0), .val (.int p1), .val (.int p2), .val (.int (p0 &&& (3 : Int32))), .val (.ref o3), .val (.int (p1 &&& (2147483647 : Int32))), .val (.int (p2 &&& (65535 : Int32))), .val (.double (FP.ddiv (FP.i2d (p2 &&& (65535 : Int32))) (4620693217682128896 : UInt64))), .second, .val (.double (FP.ddiv (FP.l2d (((p1 &&& (2147483647 : Int32))).toInt64 * ((p2 &&& (65535 : Int32))).toInt64)) (4620693217682128896 : UInt64))), .second] [(.int (1 : Int32))])) (fun t kt => XS.iconst X13.here hx rfl (hb hby at_118) kt) ?_
        refine Go.st (S' := T13.setTop (mkF m 123 #[.val (.int p0), .val (.int p1), .val (.int p2), .val (.int (p0 &&& (3 : Int32))), .val (.ref o3), .val (.int (p1 &&& (2147483647 : Int32))), .val (.int (p2 &&& (65535 : Int32))), .val (.double (FP.ddiv (FP.i2d (p2 &&& (65535 : Int32))) (4620693217682128896 : UInt64))), .second, .val (.double (FP.ddiv (FP.l2d (((p1 &&& (2147483647 : Int32))).toInt64 * ((p2 &&& (65535 : Int32))).toInt64)) (4620693217682128896 : UInt64))), .second] [(.int (1 : Int32))])) (fun t kt => XS.goto X13.here hx rfl (pc0 := 119) (pc' := 123) rfl (hb hby at_119) (by decide) (by decide) kt) ?_
        exact ret_b X13 hx hlk hret (hb hby at_123) (by decide) (by decide) (⟨rfl, N13⟩)
theorem own_fld_int {args : Array Value} {s : State} {t : Term} {a : Addr} {C n d : String} {k : Int32} (ht : t.eval args s none [] s = some (.ref a)) (h : (Jvm.Cond.eq (.field t C n d) (.int k)).value args s none s [] = some true) : s.fieldOf? a C n d = some (.int k) := by
  have q := eqv_i (Term.int_eval k) h
  rw [fld_at ht] at q
  exact q
set_option maxRecDepth 65536 in
set_option maxHeartbeats 40000000 in
theorem comes_1 {Post : Tables → Env → Array Value → State → Outcome → State → Prop} (hpost : ∀ tb e args s v u, (limb_1_1.after args s (.returned v) u = true ∧ limb_1_2.after args s (.returned v) u = true ∧ True) → FrameEnd s (.returned v) u (Jvm.fieldLocs frame_1_writes args s ++ Jvm.arrayLocs frame_1_arrays args s ++ Jvm.staticLocs frame_1_statics s) 0 0 → Post tb e args s (.returned v) u) :
    ArmFor flags0 classFile x code maxLocals ret World_1 tables_1 room_1 Calls_1 rest_1 Pre_1 Post := by
  intro l hfl _ _ p e ha hc hk s m args below hf hA hF happ hP
  obtain ⟨hcalls, hrest, hpre⟩ := hP
  obtain ⟨-, -, -, hnamed, -, hinit0, -, hat⟩ := (Spec.applies_iff hf).mp happ
  obtain ⟨hg, hn⟩ := and_e (Cond.before_iff.mp (show (Jvm.Cond.and given_1 narrow_1).before args s = true from hpre))
  obtain ⟨hcount, hgs⟩ := and_e hg
  obtain ⟨hg0, hgs⟩ := and_e hgs
  obtain ⟨hg1, hg2⟩ := and_e hgs
  obtain ⟨w0, w1, w2, rfl⟩ : ∃ w0 w1 w2 : Value, args = #[w0, w1, w2] := by
    have hs : args.size = 3 := by simpa [Cond.value, given_1] using hcount
    obtain ⟨L⟩ := args
    match L, hs with
    | [w0, w1, w2], _ => exact ⟨w0, w1, w2, rfl⟩
  have hw := fun d (hd : d ∈ tables_1) => atoms_spec (ws := Jvm.Cond.code x code maxLocals ret :: tables_1) hat d (List.mem_cons_of_mem _ hd)
  have hfit : Fit s := fun {y c} hc i hi => by
    obtain ⟨ha, rfl⟩ := Array.getElem?_eq_some_iff.mp hc
    have q := List.all_eq_true.mp ((Array.all_eq_true_iff_forall_mem.mp hF) _ (Array.getElem_mem ha)) i (List.mem_range.mpr hi)
    simpa [Array.getElem?_eq_getElem hi] using q
  obtain ⟨i0, ei0⟩ := is_v hg0
  obtain rfl : w0 = (.int i0) := Option.some.inj ei0
  obtain ⟨i1, ei1⟩ := is_v hg1
  obtain rfl : w1 = (.int i1) := Option.some.inj ei1
  obtain ⟨i2, ei2⟩ := is_v hg2
  obtain rfl : w2 = (.int i2) := Option.some.inj ei2
  obtain ⟨n0, hn⟩ := and_e hn
  obtain ⟨n1, hn⟩ := and_e hn
  obtain ⟨n2, hn⟩ := and_e hn
  obtain ⟨n3, hn⟩ := and_e hn
  obtain ⟨n4, hn⟩ := and_e hn
  obtain ⟨n5, hn⟩ := and_e hn
  obtain ⟨n6, n7⟩ := and_e hn
  obtain ⟨o0, vo0⟩ := exa_v n0
  have So0 := Sta.start vo0 (Or.inr ⟨(hw _ (List.mem_of_getElem? (i := 1) rfl)), (hw _ (List.mem_of_getElem? (i := 2) rfl))⟩)
  have Eo0 := Exa.start vo0 n0
  obtain ⟨o1, vo1⟩ := exa_v n2
  have So1 := Sta.start vo1 (Or.inr ⟨(hw _ (List.mem_of_getElem? (i := 1) rfl)), (hw _ (List.mem_of_getElem? (i := 21) rfl))⟩)
  have Eo1 := Exa.start vo1 n2
  obtain ⟨o3, vo3⟩ := exa_v n4
  have So3 := Sta.start vo3 (Or.inr ⟨(hw _ (List.mem_of_getElem? (i := 1) rfl)), (hw _ (List.mem_of_getElem? (i := 23) rfl))⟩)
  have Eo3 := Exa.start vo3 n4
  obtain ⟨o2, vo2⟩ := exa_v n6
  have So2 := Sta.start vo2 (Or.inr ⟨(hw _ (List.mem_of_getElem? (i := 1) rfl)), (hw _ (List.mem_of_getElem? (i := 25) rfl))⟩)
  have Eo2 := Exa.start vo2 n6
  have Fo0_ordinal := Fld.start (own_fld_int vo0 n1)
  have Fo1_ordinal := Fld.start (own_fld_int vo1 n3)
  have Fo3_ordinal := Fld.start (own_fld_int vo3 n5)
  have Fo2_ordinal := Fld.start (own_fld_int vo2 n7)
  obtain ⟨n, o, h1, h2, h3, _, L, rfl, ⟨rfl, N⟩, hq⟩ := rm0 l s _ hw i0 i1 i2 s.heap s.heap.size (Nat.le_refl _) o0 o1 o2 o3 So0 Eo0 Fo0_ordinal So1 Eo1 Fo1_ordinal So2 Eo2 Fo2_ordinal So3 Eo3 Fo3_ordinal tables_1 p e ha hc hk s m _ below hf ((Spec.applies_iff_loose hf).mp happ).1 ⟨rfl, State.Warmed39.refl s, rfl⟩ trivial
  refine ⟨n, _, h1, h2, h3, hpost _ _ _ _ _ _ ⟨Cond.after_iff.mpr rfl, Cond.after_iff.mpr (eq_i res_at (Term.int_eval (1)) rfl), trivial⟩ ⟨hq.1, hq.2.1, (hq.2.2.sift fun y hy => Or.inr (N y hy)).mono (by decide) (by decide)⟩⟩
theorem main_1_1 : Claimed_1_1 := comes_1 fun _ _ _ _ _ _ h hF => ⟨h.1, hF⟩
theorem main_1_2 : Claimed_1_2 := comes_1 fun _ _ _ _ _ _ h hF => ⟨h.2.1, hF⟩
end Jvm.Pilot.@@N@@
namespace Jvm.Pilot.@@N@@
open Jvm Jvm.ClassFile Sem Op Lib Jvm.Free Jvm.Stand Jvm.Pilot.@@N@@.Jvm.D
/-! MADE BY PROGRAM (witnessworld.py) out of the Statement's table words and the real class files: 12 classes; the members and pool entries that the words name. The judged class is class 1, her method 1. -/
namespace start1
open Jvm.ClassFile
def u (s : String) : CpInfo := .utf8 (stringToUtf16 s)
/-- a pool by its gaps: so many unusable entries, then the entry; so many at the end -/
def gap : Nat → List CpInfo → List CpInfo
  | 0, r => r
  | n + 1, r => .unusable :: gap n r
def poolList (es : List (Nat × CpInfo)) (last : Nat) : List CpInfo := es.foldr (fun e r => gap e.1 (e.2 :: r)) (gap last [])
def pool (es : List (Nat × CpInfo)) (last : Nat) : Array CpInfo := ⟨poolList es last⟩
def fileOf (pool : Array CpInfo) (this : Nat) (attrs : Array Attribute := #[]) (ms : Array MethodInfo := #[]) (fl : Nat := 33) (sup : Nat := 0) (ifs : Array Nat := #[]) (fds : Array FieldInfo := #[]) : ClassFile where
  minorVersion := 0
  majorVersion := 65
  constantPool := pool
  accessFlags := fl
  thisClass := this
  superClass := sup
  interfaces := ifs
  fields := fds
  methods := ms
  attributes := attrs
def plain (name : String) (sup : Option ClassId) : Class where
  name := name
  kind := .ordinary
  loader := none
  accessFlags := 33
  super := sup
  interfaces := #[]
  cf := none
  fields := #[]
  methods := #[]
  instanceTypes := #[]
  staticTypes := #[]
  resolved := #[]
  callSites := []
  init := .initialized
  statics := none
  mirror := none

def pool0 : Array CpInfo := pool [(5, u "<init>"), (0, u "()V"), (1, .class_ 10), (1, u "java/lang/Object")] 113

def k0m0 : Method := { name := "<init>", desc := "()V", sig := { parameters := [], returnType := none }, accessFlags := 1, code := none }
/-- java/lang/Object -/
def k0 : Class := { plain "java/lang/Object" none with
  accessFlags := 33
  interfaces := #[]
  cf := some (fileOf pool0 8 #[] #[{ accessFlags := 1, nameIndex := 5, descriptorIndex := 6, attributes := #[] }] 33 0 #[] #[])
  fields := #[]
  methods := #[k0m0]
  instanceTypes := #[]
  staticTypes := #[]
  resolved := Array.replicate 124 none
  statics := none }

def pool1 : Array CpInfo := pool [(2, .class_ 4), (1, u "java/lang/Object"), (0, u "<init>"), (0, u "()V"), (0, .fieldref 8 9), (0, .class_ 10), (0, .nameAndType 11 12), (0, u "com/example/widsith/widsith/Weighting"), (0, u "BINARY"), (0, u "Lcom/example/widsith/widsith/Weighting;"), (0, .fieldref 8 14), (0, .nameAndType 15 12), (0, u "TF"), (0, .fieldref 8 17), (0, .nameAndType 18 12), (0, u "TFIDF"), (0, .fieldref 8 20), (0, .nameAndType 21 12), (0, u "TFIDF_SMOOTH"), (0, .integer 2147483647), (0, .integer 65535), (0, .double 4620693217682128896), (1, .methodref 8 27), (0, .nameAndType 28 29), (0, u "weight"), (0, u "(ID)D"), (0, .class_ 31), (0, u "com/example/widsith/widsith/WeightingWeightPinLaw"), (2, u "law"), (0, u "(III)Z")] 3

def k1m0 : Method := { name := "<init>", desc := "()V", sig := { parameters := [], returnType := none }, accessFlags := 1, code := none }
def k1c1 : Code := { maxStack := 4, maxLocals := 11, code := code, exceptionTable := #[], attributes := #[] }
def k1m1 : Method := { name := "law", desc := "(III)Z", sig := { parameters := [.int, .int, .int], returnType := some .boolean }, accessFlags := 9, code := some k1c1 }
/-- com/example/widsith/widsith/WeightingWeightPinLaw -/
def k1 : Class := { plain "com/example/widsith/widsith/WeightingWeightPinLaw" (some 0) with
  accessFlags := 49
  interfaces := #[]
  cf := some (fileOf pool1 30 #[] #[{ accessFlags := 1, nameIndex := 5, descriptorIndex := 6, attributes := #[] }, { accessFlags := 9, nameIndex := 34, descriptorIndex := 35, attributes := #[] }] 49 2 #[] #[])
  fields := #[]
  methods := #[k1m0, k1m1]
  instanceTypes := #[]
  staticTypes := #[]
  resolved := Array.replicate 39 none
  statics := none }

def pool2 : Array CpInfo := pool [(1, .class_ 2), (0, u "java/lang/constant/Constable"), (0, .class_ 4), (0, u "java/lang/Object")] 6

/-- java/lang/constant/Constable -/
def k2 : Class := { plain "java/lang/constant/Constable" (some 0) with
  accessFlags := 1537
  interfaces := #[]
  cf := some (fileOf pool2 1 #[] #[] 1537 3 #[] #[])
  fields := #[]
  methods := #[]
  instanceTypes := #[]
  staticTypes := #[]
  resolved := Array.replicate 11 none
  statics := none }

def pool3 : Array CpInfo := pool [(1, .class_ 2), (0, u "java/lang/Comparable"), (0, .class_ 4), (0, u "java/lang/Object")] 7

/-- java/lang/Comparable -/
def k3 : Class := { plain "java/lang/Comparable" (some 0) with
  accessFlags := 1537
  interfaces := #[]
  cf := some (fileOf pool3 1 #[] #[] 1537 3 #[] #[])
  fields := #[]
  methods := #[]
  instanceTypes := #[]
  staticTypes := #[]
  resolved := Array.replicate 12 none
  statics := none }

def pool4 : Array CpInfo := pool [(1, .class_ 2), (0, u "java/io/Serializable"), (0, .class_ 4), (0, u "java/lang/Object")] 2

/-- java/io/Serializable -/
def k4 : Class := { plain "java/io/Serializable" (some 0) with
  accessFlags := 1537
  interfaces := #[]
  cf := some (fileOf pool4 1 #[] #[] 1537 3 #[] #[])
  fields := #[]
  methods := #[]
  instanceTypes := #[]
  staticTypes := #[]
  resolved := Array.replicate 7 none
  statics := none }

def pool5 : Array CpInfo := pool [(2, .class_ 4), (1, u "java/lang/Enum"), (0, u "name"), (0, u "Ljava/lang/String;"), (0, .fieldref 2 8), (0, .nameAndType 9 10), (0, u "ordinal"), (0, u "I"), (1, .class_ 14), (1, u "java/lang/Object"), (4, u "hash"), (86, .class_ 108), (1, u "java/lang/Enum$EnumDesc"), (2, .class_ 112), (0, u "java/lang/constant/Constable"), (0, .class_ 114), (0, u "java/lang/Comparable"), (0, .class_ 116), (0, u "java/io/Serializable"), (9, u "()I")] 77

def k5c0 : Code := { maxStack := 1, maxLocals := 1, code := jdk_37_method_2_code, exceptionTable := #[], attributes := #[] }
def k5m0 : Method := { name := "ordinal", desc := "()I", sig := { parameters := [], returnType := some .int }, accessFlags := 17, code := some k5c0 }
/-- java/lang/Enum -/
def k5 : Class := { plain "java/lang/Enum" (some 0) with
  accessFlags := 1057
  interfaces := #[2, 3, 4]
  cf := some (fileOf pool5 2 #[.nestMembers #[106]] #[{ accessFlags := 17, nameIndex := 9, descriptorIndex := 126, attributes := #[] }] 1057 12 #[111, 113, 115] #[{ accessFlags := 18, nameIndex := 5, descriptorIndex := 6, attributes := #[] }, { accessFlags := 18, nameIndex := 9, descriptorIndex := 10, attributes := #[] }, { accessFlags := 2, nameIndex := 19, descriptorIndex := 10, attributes := #[] }])
  fields := #[{ name := "name", type := (.object "java/lang/String"), accessFlags := 18, slot := 0, constantValue := 0 }, { name := "ordinal", type := .int, accessFlags := 18, slot := 1, constantValue := 0 }, { name := "hash", type := .int, accessFlags := 2, slot := 2, constantValue := 0 }]
  methods := #[k5m0]
  instanceTypes := #[(.object "java/lang/String"), .int, .int]
  staticTypes := #[]
  resolved := Array.replicate 204 none
  statics := none }

def pool6 : Array CpInfo := pool [(1, .class_ 2), (0, u "com/example/widsith/widsith/Weighting"), (2, u "BINARY"), (0, u "Lcom/example/widsith/widsith/Weighting;"), (2, u "TF"), (2, u "TFIDF"), (2, u "TFIDF_SMOOTH"), (2, u "$VALUES"), (0, u "[Lcom/example/widsith/widsith/Weighting;"), (6, .class_ 28), (1, u "java/lang/Enum"), (8, u "label"), (0, u "Ljava/lang/String;"), (22, u "weight"), (0, u "(ID)D"), (9, .methodref 1 73), (0, .nameAndType 74 75), (0, u "ordinal"), (0, u "()I")] 80

def k6c0 : Code := { maxStack := 4, maxLocals := 6, code := prog_46_method_8_code, exceptionTable := #[], attributes := #[] }
def k6m0 : Method := { name := "weight", desc := "(ID)D", sig := { parameters := [.int, .double], returnType := some .double }, accessFlags := 0, code := some k6c0 }
/-- com/example/widsith/widsith/Weighting -/
def k6 : Class := { plain "com/example/widsith/widsith/Weighting" (some 5) with
  accessFlags := 16433
  interfaces := #[]
  cf := some (fileOf pool6 1 #[] #[{ accessFlags := 0, nameIndex := 61, descriptorIndex := 62, attributes := #[] }] 16433 26 #[] #[{ accessFlags := 16409, nameIndex := 5, descriptorIndex := 6, attributes := #[] }, { accessFlags := 16409, nameIndex := 9, descriptorIndex := 6, attributes := #[] }, { accessFlags := 16409, nameIndex := 12, descriptorIndex := 6, attributes := #[] }, { accessFlags := 16409, nameIndex := 15, descriptorIndex := 6, attributes := #[] }, { accessFlags := 18, nameIndex := 37, descriptorIndex := 38, attributes := #[] }, { accessFlags := 4122, nameIndex := 18, descriptorIndex := 19, attributes := #[] }])
  fields := #[{ name := "BINARY", type := (.object "com/example/widsith/widsith/Weighting"), accessFlags := 16409, slot := 0, constantValue := 0 }, { name := "TF", type := (.object "com/example/widsith/widsith/Weighting"), accessFlags := 16409, slot := 1, constantValue := 0 }, { name := "TFIDF", type := (.object "com/example/widsith/widsith/Weighting"), accessFlags := 16409, slot := 2, constantValue := 0 }, { name := "TFIDF_SMOOTH", type := (.object "com/example/widsith/widsith/Weighting"), accessFlags := 16409, slot := 3, constantValue := 0 }, { name := "label", type := (.object "java/lang/String"), accessFlags := 18, slot := 3, constantValue := 0 }, { name := "$VALUES", type := (.array (.object "com/example/widsith/widsith/Weighting")), accessFlags := 4122, slot := 4, constantValue := 0 }]
  methods := #[k6m0]
  instanceTypes := #[(.object "java/lang/String"), .int, .int, (.object "java/lang/String")]
  staticTypes := #[(.object "com/example/widsith/widsith/Weighting"), (.object "com/example/widsith/widsith/Weighting"), (.object "com/example/widsith/widsith/Weighting"), (.object "com/example/widsith/widsith/Weighting"), (.array (.object "com/example/widsith/widsith/Weighting"))]
  resolved := Array.replicate 156 none
  statics := some 0 }

def pool7 : Array CpInfo := pool [(1, u "java/lang/Cloneable"), (0, .class_ 1), (0, u "java/lang/Object"), (0, .class_ 3)] 3

/-- java/lang/Cloneable -/
def k7 : Class := { plain "java/lang/Cloneable" (some 0) with
  accessFlags := 1537
  interfaces := #[]
  cf := some (fileOf pool7 2 #[] #[] 1537 4 #[] #[])
  fields := #[]
  methods := #[]
  instanceTypes := #[]
  staticTypes := #[]
  resolved := Array.replicate 8 none
  statics := none }

/-- the primitive byte -/
def k8 : Class := { plain "byte" none with kind := .primitive 'B', accessFlags := 0x411 }
/-- [B -/
def k9 : Class := { plain "[B" (some 0) with kind := .array 8 .byte, interfaces := #[7, 4], accessFlags := 1041 }

/-- the primitive int -/
def k10 : Class := { plain "int" none with kind := .primitive 'I', accessFlags := 0x411 }
/-- [I -/
def k11 : Class := { plain "[I" (some 0) with kind := .array 10 .int, interfaces := #[7, 4], accessFlags := 1041 }

def heap : Heap := #[{ cls := 6, slots := #[.ref 1, .ref 2, .ref 3, .ref 4, .null], vm := .statics 6 },
  { cls := 6, slots := #[.null, .int 0, .int 0, .null], vm := .none },
  { cls := 6, slots := #[.null, .int 1, .int 0, .null], vm := .none },
  { cls := 6, slots := #[.null, .int 2, .int 0, .null], vm := .none },
  { cls := 6, slots := #[.null, .int 3, .int 0, .null], vm := .none }]
def classes : Array Class := #[k0, k1, k2, k3, k4, k5, k6, k7, k8, k9, k10, k11]
def interned : List (Array UInt16 × Addr) := []
def slotsUsed : Nat := 21
def theMethod : MethodId := ⟨1, 1⟩
def args0 : Array Value := #[.int 5, .int 7, .int 9]
def aboutOver (below : List Frame) : State where
  vm := { classes := classes, interned := interned.toArray }
  heap := heap
  slotsUsed := slotsUsed
  threads := #[{ frames := .invoking theMethod args0 :: below }]
def below0 : List Frame := [.native { method := ⟨0, 0⟩, args := #[] }]
def about1 : State := aboutOver below0
def p0 : Program := .bare "" "" ""
def e0 : Env := launch0.env 0 0 0
theorem w_frames : about1.frames = Frame.invoking theMethod args0 :: below0 := rfl
set_option maxRecDepth 65536 in
theorem w_args : argsFit about1.vm theMethod args0 = true := by decide +kernel
set_option maxRecDepth 65536 in
theorem w_heap : heapFits about1 = true := by decide +kernel
set_option maxRecDepth 65536 in
theorem w_runnable : about1.curStatus? = some .runnable := by decide +kernel
set_option maxRecDepth 65536 in
theorem w_alone : about1.alone = true := by decide +kernel
set_option maxRecDepth 65536 in
theorem w_named : about1.methodNamed? x = some theMethod := by decide +kernel
set_option maxRecDepth 65536 in
theorem w_hears : about1.hears theMethod below0 = true := by decide +kernel
set_option maxRecDepth 65536 in
theorem w_ripe : about1.ripe theMethod args0 below0 = true := by decide +kernel
theorem w_running : about1.status = .running := rfl
set_option maxRecDepth 65536 in
theorem w_room : about1.hasRoom e0.platform room_1 = true :=
  launch0.hasRoom_least _ room_1 (by decide +kernel) (by decide +kernel) (by decide +kernel) (by decide +kernel) (by decide +kernel) (by decide +kernel)
theorem allAtoms_all (ts : List Jvm.Cond) (a : Array Jvm.Value) (st : Jvm.State) : (allAtoms ts).before a st = ts.all (fun c => c.before a st) := by
  induction ts with
  | nil => rfl
  | cons c t ih =>
    show (Jvm.Cond.and c (allAtoms t)).before a st = _
    rw [Jvm.Cond.before_and, ih, List.all_cons]
def words1 : List Jvm.Cond := Jvm.Cond.code x code maxLocals ret :: tables_1
/-- a 'code' word, met by the world's own term for the bytes: nothing is compared byte by byte -/
theorem code_word {y : MethodName} {bytes : ByteArray} {mx : Nat} {rt : Option FieldType} {a : Array Value} {s : State} {m : MethodId} {meth : Method} {c : Code} (h1 : s.methodNamed? y = some m) (h2 : s.vm.method? m = some meth) (h3 : meth.code = some c) (h4 : c.code = bytes)
    (h5 : (c.maxLocals == mx && c.exceptionTable.isEmpty && decide (c.maxStack ≤ mostOperands) && decide (meth.sig.returnType = rt) && !meth.locks && decide (parseMethodDescriptor y.desc = some meth.sig)) = true) : (Jvm.Cond.code y bytes mx rt).before a s = true := by
  simp only [Bool.and_eq_true, beq_iff_eq, Bool.not_eq_true', decide_eq_true_eq] at h5
  obtain ⟨⟨⟨⟨⟨g1, g2⟩, g3⟩, g4⟩, g5⟩, g6⟩ := h5
  simp [Cond.before, Cond.holds, Cond.value, h1, h2, h3, h4, g1, g2, g3, g4, g5, g6]
def isCode : Jvm.Cond → Bool
  | .code _ _ _ _ => true
  | _ => false
theorem all_split {L : List Jvm.Cond} {P : Jvm.Cond → Bool} (h1 : L.all (fun c => isCode c || P c) = true) (h2 : ∀ c ∈ L.filter isCode, P c = true) : L.all P = true := by
  refine List.all_eq_true.mpr fun c hc => ?_
  have h := List.all_eq_true.mp h1 c hc
  rcases Bool.eq_false_or_eq_true (isCode c) with hi | hi
  · exact h2 c (List.mem_filter.mpr ⟨hc, hi⟩)
  · simpa [hi] using h
set_option maxRecDepth 65536 in
theorem w_c0 : (Jvm.Cond.code x code maxLocals ret).before args0 about1 = true := code_word (m := ⟨1, 1⟩) (meth := k1m1) (c := k1c1) (by decide +kernel) rfl rfl rfl (by decide +kernel)
set_option maxRecDepth 65536 in
theorem w_c1 : (Jvm.Cond.code ({ cls := "com/example/widsith/widsith/Weighting", name := "weight", desc := "(ID)D" } : Jvm.MethodName) prog_46_method_8_code (6 : Nat) (Option.some Jvm.ClassFile.FieldType.double)).before args0 about1 = true := code_word (m := ⟨6, 0⟩) (meth := k6m0) (c := k6c0) (by decide +kernel) rfl rfl rfl (by decide +kernel)
set_option maxRecDepth 65536 in
theorem w_c2 : (Jvm.Cond.code ({ cls := "java/lang/Enum", name := "ordinal", desc := "()I" } : Jvm.MethodName) jdk_37_method_2_code (1 : Nat) (Option.some Jvm.ClassFile.FieldType.int)).before args0 about1 = true := code_word (m := ⟨5, 0⟩) (meth := k5m0) (c := k5c0) (by decide +kernel) rfl rfl rfl (by decide +kernel)
def codes1 : List Jvm.Cond := [Jvm.Cond.code x code maxLocals ret, Jvm.Cond.code ({ cls := "com/example/widsith/widsith/Weighting", name := "weight", desc := "(ID)D" } : Jvm.MethodName) prog_46_method_8_code (6 : Nat) (Option.some Jvm.ClassFile.FieldType.double), Jvm.Cond.code ({ cls := "java/lang/Enum", name := "ordinal", desc := "()I" } : Jvm.MethodName) jdk_37_method_2_code (1 : Nat) (Option.some Jvm.ClassFile.FieldType.int)]
set_option maxRecDepth 65536 in
theorem codes_eq : words1.filter isCode = codes1 := rfl
theorem w_codes : ∀ c ∈ words1.filter isCode, c.before args0 about1 = true := by
  rw [codes_eq]
  intro c hc
  simp only [codes1, List.mem_cons, List.not_mem_nil, or_false] at hc
  rcases hc with rfl | rfl | rfl
  · exact w_c0
  · exact w_c1
  · exact w_c2
set_option maxRecDepth 65536 in
theorem w_t1 : (words1.take 24).all (fun c => isCode c || c.before args0 about1) = true := by decide +kernel
set_option maxRecDepth 65536 in
theorem w_t2 : (words1.drop 24).all (fun c => isCode c || c.before args0 about1) = true := by decide +kernel
theorem w_tables : (allAtoms (Jvm.Cond.code x code maxLocals ret :: tables_1)).before args0 about1 = true := by
  rw [allAtoms_all]
  show words1.all (fun c => c.before args0 about1) = true
  refine all_split ?_ w_codes
  rw [← List.take_append_drop 24 words1, List.all_append, w_t1, w_t2]
  rfl
set_option maxRecDepth 65536 in
theorem w_case : (Jvm.Cond.and given_1 narrow_1).before args0 about1 = true := by decide +kernel
theorem w_applies : (headSpec (Jvm.Cond.code x code maxLocals ret :: tables_1) room_1).applies x e0.platform about1 = true :=
  (Spec.applies_iff w_frames).mpr ⟨w_running, w_runnable, w_alone, w_named, w_hears, w_ripe, w_room, w_tables⟩
theorem atStart : AtStart classFile x code maxLocals ret World_1 tables_1 room_1 Calls_1 rest_1 Pre_1 launch0 p0 e0 about1 theMethod args0 below0 :=
  ⟨lists_1, trivial, launch0.admits_env _ _ _, launch0.least_env, fairChoices_fair.cas, fairChoices_fair.clock, w_frames, w_args, w_heap, w_applies, trivial, trivial, w_case⟩
end start1
theorem witness_1 : WitnessClaimed_1 := ⟨start1.p0, start1.e0, start1.about1, start1.theMethod, start1.args0, start1.below0, start1.atStart⟩
end Jvm.Pilot.@@N@@
