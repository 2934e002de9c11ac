import JvmDerived
import JvmDerived.Pilot.@@N@@Statement
import JvmDerived.Pilot.@@N@@Code
set_option linter.unusedVariables false
set_option linter.unusedSimpArgs false
namespace Jvm.Pilot.@@N@@
open Jvm Jvm.ClassFile Sem Op Lib Jvm.Free Jvm.Stand Jvm.LawKit Jvm.RoadKit Bundle Jvm.Pilot.@@N@@.Jvm.D
/-! own kit: a walk that goes forward: Go says what is still owed from the state S -/
section OwnGo
variable {p : Program} {l : Launch} {e : Env} {R : Room} {s : State} {m : MethodId} {args : Array Value} {below : List Frame} {meth : Method} {c : Code} {T : State} {locs : List Loc} {cells slots : Nat} {Z : State} {a0 : Array Value} {h : Heap} {G : Outcome → State → Prop} {S S' : State}
def Go (p : Program) (e : Env) (below : List Frame) (G : Outcome → State → Prop) (S : State) : Prop :=
  ∃ s₂ o, Steps p.tables e below S s₂ ∧ s₂.status = .running ∧ Ended s₂ below o ∧ G o s₂
theorem Go.st (h : ∀ t, Steps p.tables e below S' t → Steps p.tables e below S t) (k : Go p e below G S') : Go p e below G S := by
  obtain ⟨s₂, o, h1, h2⟩ := k
  exact ⟨s₂, o, h _ h1, h2⟩
theorem Go.tr (h : Steps p.tables e below S S') (k : Go p e below G S') : Go p e below G S := by
  obtain ⟨s₂, o, h1, h2⟩ := k
  exact ⟨s₂, o, h.trans h1, h2⟩
theorem Go.cast {g g' : JFrame} (q : g = g') (k : Go p e below G (T.setTop g')) : Go p e below G (T.setTop g) := q ▸ k
/-- what a body leaves: Q of the value, the heap and the places written -/
def Left (s : State) (K N : Nat) (Q : Option Value → Heap → List Loc → Prop) : Outcome → State → Prop :=
  fun o t => ∃ v L, o = .returned v ∧ Q v t.heap L ∧ FrameEnd s o t L K N
/-- a body's contract -/
def Pays (l : Launch) (y : MethodName) (bytes : ByteArray) (maxL : Nat) (ret : Option FieldType) (rm : Room) (Z : State) (as' : Array Value) (h0 : Heap) (Q : Option Value → Heap → List Loc → Prop) : Prop :=
  ∀ ws, MetFree l y (head1 (Cond.code y bytes maxL ret :: ws) rm) (fun a U => a = as' ∧ Z.Warmed39 U.vm ∧ U.heap = h0) (fun _ _ _ _ _ => True) (fun _ U o U' => ∃ v L, o = .returned v ∧ Q v U'.heap L ∧ FrameEnd U o U' L rm.cells rm.slots)
theorem Pays.of {y : MethodName} {bytes : ByteArray} {maxL : Nat} {ret : Option FieldType} {rm : Room} {as' : Array Value} {h0 : Heap} {Q : Option Value → Heap → List Loc → Prop} (hx : plainFor y = true)
    (body : ∀ (p : Program) (e : Env) (s : State) (m : MethodId) (below : List Frame) (meth : Method) (c : Code) (T : State), p.tables.exec = Jvm.exec → c.code = bytes → c.maxLocals = maxL → meth.sig.returnType = ret → meth.locks = false → Z.Warmed39 s.vm → s.vm.findClass y.cls = some m.cls → meth.name = y.name →
      T.heap = h0 → Stand p l e rm s m as' below meth c T [] 0 0 → Go p e below (Left s rm.cells rm.slots Q) (T.setTop (entryFrame m as' maxL))) : Pays l y bytes maxL ret rm Z as' h0 Q := by
  intro ws
  refine MetFree.of_bodySF hx hisR ?_
  intro p e s m args below meth c s₁ Bd hml0 hP hK
  obtain ⟨rfl, hZ, hh⟩ := hP
  exact body p e s m below meth c s₁ Bd.exec Bd.bytes hml0 Bd.returns Bd.notSynchronized hZ (findClass_of_methodNamed Bd.named) (name_of_methodNamed Bd.named Bd.method).1 (by rw [← hh, Bd.state]; rfl) (Stand.of_body Bd)
theorem Go.out (X : Stand p l e R s m args below meth c T locs cells slots) {v : Option Value} {K N : Nat} {Q : Option Value → Heap → List Loc → Prop} (hlocks : meth.locks = false) (hv : meth.sig.returnType = none → v = none) (hK : cells ≤ K) (hN : slots ≤ N) (hQ : Q v T.heap locs)
    (st : ∀ fs, (∀ (f : JFrame) (acts : List Action), f.method = m → f.locked = none → f.entered = [] → (doReturn e (T.setTop f) acts v).1 = T.setFrames fs) → Steps p.tables e below S (T.setFrames fs)) : Go p e below (Left s K N Q) S := by
  obtain ⟨fs, hr, hrun, hended, hW, hsame⟩ := X.leave hv hlocks
  exact ⟨_, _, st fs hr, hrun, hended, v, locs, rfl, hQ, ⟨_, rfl⟩, hW, hsame.mono hK hN⟩
theorem ret_b (X : Stand p l e R s m args below meth c T locs cells slots) (hx : p.tables.exec = Jvm.exec) (hlocks : meth.locks = false) (hret : meth.sig.returnType = some .boolean) {pc : Nat} {Ls : Array Slot} {z : Int32} {rest : List Value} {K N : Nat} {Q : Option Value → Heap → List Loc → Prop} (hd : decode c.code pc = .ok (.ireturn, 1)) (hK : cells ≤ K) (hN : slots ≤ N)
    (hQ : Q (some (.int (z &&& 1))) T.heap locs) : Go p e below (Left s K N Q) (T.setTop (mkF m pc Ls (.int z :: rest))) :=
  Go.out X (v := some (.int (z &&& 1))) hlocks (fun h => by rw [hret] at h; cases h) hK hN hQ fun fs hr => retN X hx (t := .boolean) hret (by simp) hd hr
theorem ret_c (X : Stand p l e R s m args below meth c T locs cells slots) (hx : p.tables.exec = Jvm.exec) (hlocks : meth.locks = false) (hret : meth.sig.returnType = some .char) {pc : Nat} {Ls : Array Slot} {z : Int32} {rest : List Value} {K N : Nat} {Q : Option Value → Heap → List Loc → Prop} (hd : decode c.code pc = .ok (.ireturn, 1)) (hK : cells ≤ K) (hN : slots ≤ N)
    (hQ : Q (some (.int (nar .char z))) T.heap locs) : Go p e below (Left s K N Q) (T.setTop (mkF m pc Ls (.int z :: rest))) :=
  Go.out X (v := some (.int (nar .char z))) hlocks (fun h => by rw [hret] at h; cases h) hK hN hQ fun fs hr => retN X hx (t := .char) hret (by simp) hd hr
theorem ret_y (X : Stand p l e R s m args below meth c T locs cells slots) (hx : p.tables.exec = Jvm.exec) (hlocks : meth.locks = false) (hret : meth.sig.returnType = some .byte) {pc : Nat} {Ls : Array Slot} {z : Int32} {rest : List Value} {K N : Nat} {Q : Option Value → Heap → List Loc → Prop} (hd : decode c.code pc = .ok (.ireturn, 1)) (hK : cells ≤ K) (hN : slots ≤ N)
    (hQ : Q (some (.int (nar .byte z))) T.heap locs) : Go p e below (Left s K N Q) (T.setTop (mkF m pc Ls (.int z :: rest))) :=
  Go.out X (v := some (.int (nar .byte z))) hlocks (fun h => by rw [hret] at h; cases h) hK hN hQ fun fs hr => retN X hx (t := .byte) hret (by simp) hd hr
theorem ret_i (X : Stand p l e R s m args below meth c T locs cells slots) (hx : p.tables.exec = Jvm.exec) (hlocks : meth.locks = false) (hret : meth.sig.returnType = some .int) {pc : Nat} {Ls : Array Slot} {z : Int32} {rest : List Value} {K N : Nat} {Q : Option Value → Heap → List Loc → Prop} (hd : decode c.code pc = .ok (.ireturn, 1)) (hK : cells ≤ K) (hN : slots ≤ N)
    (hQ : Q (some (.int z)) T.heap locs) : Go p e below (Left s K N Q) (T.setTop (mkF m pc Ls (.int z :: rest))) :=
  Go.out X (v := some (.int z)) hlocks (fun h => by rw [hret] at h; cases h) hK hN hQ fun fs hr => retOut X hx hret rfl (Or.inl ⟨rfl, Or.inl rfl, z, rfl⟩) hd hr
theorem ret_l (X : Stand p l e R s m args below meth c T locs cells slots) (hx : p.tables.exec = Jvm.exec) (hlocks : meth.locks = false) (hret : meth.sig.returnType = some .long) {pc : Nat} {Ls : Array Slot} {z : Int64} {rest : List Value} {K N : Nat} {Q : Option Value → Heap → List Loc → Prop} (hd : decode c.code pc = .ok (.lreturn, 1)) (hK : cells ≤ K) (hN : slots ≤ N)
    (hQ : Q (some (.long z)) T.heap locs) : Go p e below (Left s K N Q) (T.setTop (mkF m pc Ls (.long z :: rest))) :=
  Go.out X (v := some (.long z)) hlocks (fun h => by rw [hret] at h; cases h) hK hN hQ fun fs hr => retOut X hx hret rfl (Or.inr (Or.inl ⟨rfl, rfl, z, rfl⟩)) hd hr
theorem ret_d (X : Stand p l e R s m args below meth c T locs cells slots) (hx : p.tables.exec = Jvm.exec) (hlocks : meth.locks = false) (hret : meth.sig.returnType = some .double) {pc : Nat} {Ls : Array Slot} {z : UInt64} {rest : List Value} {K N : Nat} {Q : Option Value → Heap → List Loc → Prop} (hd : decode c.code pc = .ok (.dreturn, 1)) (hK : cells ≤ K) (hN : slots ≤ N)
    (hQ : Q (some (.double z)) T.heap locs) : Go p e below (Left s K N Q) (T.setTop (mkF m pc Ls (.double z :: rest))) :=
  Go.out X (v := some (.double z)) hlocks (fun h => by rw [hret] at h; cases h) hK hN hQ fun fs hr => retOut X hx hret rfl (Or.inr (Or.inr (Or.inl ⟨rfl, rfl, z, rfl⟩))) hd hr
theorem ret_a (X : Stand p l e R s m args below meth c T locs cells slots) (hx : p.tables.exec = Jvm.exec) (hlocks : meth.locks = false) {t : FieldType} (hret : meth.sig.returnType = some t) (ht : t.isReference = true) {pc : Nat} {Ls : Array Slot} {v : Value} (hv : v.isRef = true) {rest : List Value} {K N : Nat} {Q : Option Value → Heap → List Loc → Prop} (hd : decode c.code pc = .ok (.areturn, 1)) (hK : cells ≤ K) (hN : slots ≤ N)
    (hQ : Q (some v) T.heap locs) : Go p e below (Left s K N Q) (T.setTop (mkF m pc Ls (v :: rest))) :=
  Go.out X (v := some v) hlocks (fun h => by rw [hret] at h; cases h) hK hN hQ fun fs hr => retOut X hx hret (by rcases ref_cases hv with rfl | ⟨a, rfl⟩ <;> cases t <;> first | rfl | cases ht) (Or.inr (Or.inr (Or.inr (Or.inr ⟨rfl, ht, hv⟩)))) hd hr
theorem ret_v (X : Stand p l e R s m args below meth c T locs cells slots) (hx : p.tables.exec = Jvm.exec) (hlocks : meth.locks = false) (hret : meth.sig.returnType = none) {pc : Nat} {Ls : Array Slot} {K N : Nat} {Q : Option Value → Heap → List Loc → Prop} (hd : decode c.code pc = .ok (.return_, 1)) (hK : cells ≤ K) (hN : slots ≤ N)
    (hQ : Q none T.heap locs) : Go p e below (Left s K N Q) (T.setTop (mkF m pc Ls [])) :=
  Go.out X (v := none) hlocks (fun _ => rfl) hK hN hQ fun fs hr => X.returnOut hx hret hd hr
/-- a call of an instance method, by its contract -/
theorem Go.virt (X : Stand p l e R s m args below meth c T locs cells slots) (hx : p.tables.exec = Jvm.exec) (hZ : Z.Warmed39 s.vm) {own C : String} {index : Nat} {y z : MethodName} (hown : s.vm.findClass own = some m.cls) (wl : (Cond.methodLink own index y).before a0 Z = true) (wd : (Cond.declares y).before a0 Z = true) (nf : NotFace s y)
    (wsel : (Cond.selects C y z).before a0 Z = true) (wi : (Cond.instanceMethod z).before a0 Z = true) {bytes : ByteArray} {maxL : Nat} {ret : Option FieldType} (wc : (Cond.code z bytes maxL ret).before a0 Z = true) (wz : (Cond.initialized z.cls).before a0 Z = true) (hy : y.cls ≠ "java/lang/invoke/MethodHandle" ∧ y.cls ≠ "java/lang/invoke/VarHandle")
    {rm : Room} {Q : Option Value → Heap → List Loc → Prop} {b : Addr} {argsL rest : List Value} (P : Pays l z bytes maxL ret rm Z (.ref b :: argsL).toArray h Q) (eT : T.heap = h) (E : Exa Z h b C) {pc : Nat} {Ls : Array Slot} {st : List Value} (hst : st = argsL.reverse ++ .ref b :: rest) (hsz : Ls.size = c.maxLocals) {ps : List FieldType} {r : Option FieldType} (hpd : parseMethodDescriptor y.desc = some ⟨ps, r⟩) (hlen : argsL.length = ps.length)
    (hd : decode c.code pc = .ok (.invokevirtual index, 3)) (W : Nat) (hW : (rest.map fun v => v.category).sum ≤ W) (hf : rm.frames + 1 ≤ R.frames) (hl : W + (maxL + 11) + rm.locals ≤ R.locals) (hc : cells + rm.cells ≤ R.cells) (hs : slots + rm.slots ≤ R.slots)
    (k : ∀ (v : Option Value) (T' : State) (L : List Loc), Stand p l e R s m args below meth c T' (locs ++ L) (cells + rm.cells) (slots + rm.slots) → Q v T'.heap L → Go p e below G (T'.setTop (mkF m (pc + 3) Ls (v.toList ++ rest)))) : Go p e below G (T.setTop (mkF m pc Ls st)) := by
  obtain ⟨cB, kB, hcB, -, hrecv⟩ := isOf hZ eT E
  obtain ⟨v, _, ⟨T', L', k', n'⟩, -, X', ⟨L, hQ, h1, h2, h3⟩, stp⟩ := X.virtualBack hx hown (mvT hZ wl) (mvT hZ wd) nf (mvT hZ wsel) (mvT hZ wi) hy (backOf (W := W) (P []) hZ wc wz hf hl) hcB hrecv (g := mkF m pc Ls st) rfl hsz (Steps.refl _) (argsL := argsL) (rest := rest) (lenOf hpd hlen) hst (by show 2 * 0 + _ ≤ _; omega) hd (fun _ _ => ⟨rfl, eT, hc, hs⟩)
  dsimp only at X' hQ h1 h2 h3 stp
  subst h1 h2 h3
  exact Go.tr stp (k v T' L X' hQ)
/-- a call of an inherited method through a subclass's name, by its contract -/
theorem Go.up (X : Stand p l e R s m args below meth c T locs cells slots) (hx : p.tables.exec = Jvm.exec) (hZ : Z.Warmed39 s.vm) {own C owner : String} {index : Nat} {xm y : MethodName} (hown : s.vm.findClass own = some m.cls) (wl : (Cond.methodLink own index xm).before a0 Z = true) (wsm : (Cond.sameMethod xm.cls owner xm.name xm.desc).before a0 Z = true)
    (wd : (Cond.declares ⟨owner, xm.name, xm.desc⟩).before a0 Z = true) (wsel : (Cond.selects C xm y).before a0 Z = true) (wi : (Cond.instanceMethod y).before a0 Z = true) {bytes : ByteArray} {maxL : Nat} {ret : Option FieldType} (wc : (Cond.code y bytes maxL ret).before a0 Z = true) (wz : (Cond.initialized y.cls).before a0 Z = true) (hy : owner ≠ "java/lang/invoke/MethodHandle" ∧ owner ≠ "java/lang/invoke/VarHandle")
    {rm : Room} {Q : Option Value → Heap → List Loc → Prop} {b : Addr} {argsL rest : List Value} (P : Pays l y bytes maxL ret rm Z (.ref b :: argsL).toArray h Q) (eT : T.heap = h) (E : Exa Z h b C) {pc : Nat} {Ls : Array Slot} {st : List Value} (hst : st = argsL.reverse ++ .ref b :: rest) (hsz : Ls.size = c.maxLocals) {ps : List FieldType} {r : Option FieldType} (hpd : parseMethodDescriptor xm.desc = some ⟨ps, r⟩) (hlen : argsL.length = ps.length)
    (hd : decode c.code pc = .ok (.invokevirtual index, 3)) (W : Nat) (hW : (rest.map fun v => v.category).sum ≤ W) (hf : rm.frames + 1 ≤ R.frames) (hl : W + (maxL + 11) + rm.locals ≤ R.locals) (hc : cells + rm.cells ≤ R.cells) (hs : slots + rm.slots ≤ R.slots)
    (k : ∀ (v : Option Value) (T' : State) (L : List Loc), Stand p l e R s m args below meth c T' (locs ++ L) (cells + rm.cells) (slots + rm.slots) → Q v T'.heap L → Go p e below G (T'.setTop (mkF m (pc + 3) Ls (v.toList ++ rest)))) : Go p e below G (T.setTop (mkF m pc Ls st)) := by
  obtain ⟨cB, kB, hcB, -, hrecv⟩ := isOf hZ eT E
  obtain ⟨v, _, ⟨T', L', k', n'⟩, -, X', ⟨L, hQ, h1, h2, h3⟩, stp⟩ := X.virtualBackUp hx hown (mvT hZ wl) (mvT hZ wsm) (mvT hZ wd) hy (mvT hZ wsel) (mvT hZ wi) (backOf (W := W) (P []) hZ wc wz hf hl) hcB hrecv (g := mkF m pc Ls st) rfl hsz (Steps.refl _) (argsL := argsL) (rest := rest) (lenOf hpd hlen) hst (by show 2 * 0 + _ ≤ _; omega) hd (fun _ _ => ⟨rfl, eT, hc, hs⟩)
  dsimp only at X' hQ h1 h2 h3 stp
  subst h1 h2 h3
  exact Go.tr stp (k v T' L X' hQ)
/-- a call of a private instance method by invokevirtual, by its contract -/
theorem Go.priv (X : Stand p l e R s m args below meth c T locs cells slots) (hx : p.tables.exec = Jvm.exec) (hZ : Z.Warmed39 s.vm) {own C : String} {index : Nat} {y : MethodName} (hown : s.vm.findClass own = some m.cls) (wl : (Cond.methodLink own index y).before a0 Z = true) (wi : (Cond.instanceMethod y).before a0 Z = true)
    (wsel : (Cond.selects y.cls y y).before a0 Z = true) (wp : (Cond.privateMethod y).before a0 Z = true) {bytes : ByteArray} {maxL : Nat} {ret : Option FieldType} (wc : (Cond.code y bytes maxL ret).before a0 Z = true) (wz : (Cond.initialized y.cls).before a0 Z = true) (hy : y.cls ≠ "java/lang/invoke/MethodHandle" ∧ y.cls ≠ "java/lang/invoke/VarHandle")
    {rm : Room} {Q : Option Value → Heap → List Loc → Prop} {b : Addr} {argsL rest : List Value} (P : Pays l y bytes maxL ret rm Z (.ref b :: argsL).toArray h Q) (eT : T.heap = h) (E : Exa Z h b C) {pc : Nat} {Ls : Array Slot} {st : List Value} (hst : st = argsL.reverse ++ .ref b :: rest) (hsz : Ls.size = c.maxLocals) {ps : List FieldType} {r : Option FieldType} (hpd : parseMethodDescriptor y.desc = some ⟨ps, r⟩) (hlen : argsL.length = ps.length)
    (hd : decode c.code pc = .ok (.invokevirtual index, 3)) (W : Nat) (hW : (rest.map fun v => v.category).sum ≤ W) (hf : rm.frames + 1 ≤ R.frames) (hl : W + (maxL + 11) + rm.locals ≤ R.locals) (hc : cells + rm.cells ≤ R.cells) (hs : slots + rm.slots ≤ R.slots)
    (k : ∀ (v : Option Value) (T' : State) (L : List Loc), Stand p l e R s m args below meth c T' (locs ++ L) (cells + rm.cells) (slots + rm.slots) → Q v T'.heap L → Go p e below G (T'.setTop (mkF m (pc + 3) Ls (v.toList ++ rest)))) : Go p e below G (T.setTop (mkF m pc Ls st)) := by
  obtain ⟨cell, hcell, hobj⟩ := E.cell
  obtain ⟨v, _, ⟨T', L', k', n'⟩, -, X', ⟨L, hQ, h1, h2, h3⟩, stp⟩ := X.privateBack hx hown (mvT hZ wl) (mvT hZ wi) (mvT hZ wsel) (Cond.privateMethod_at (mvP (args := args) hZ wp)) (mvT hZ wc) hy (backOf (W := W) (P []) hZ wc wz hf hl) (g := mkF m pc Ls st) rfl hsz (Steps.refl _) (a := b) (by rw [eT]; exact hcell) hobj (argsL := argsL) (rest := rest) (lenOf hpd hlen) hst (by show 2 * 0 + _ ≤ _; omega) hd (fun _ _ => ⟨rfl, eT, hc, hs⟩)
  dsimp only at X' hQ h1 h2 h3 stp
  subst h1 h2 h3
  exact Go.tr stp (k v T' L X' hQ)
/-- a call of an interface's method, by the contract of the method that it goes to -/
theorem Go.face (X : Stand p l e R s m args below meth c T locs cells slots) (hx : p.tables.exec = Jvm.exec) (hZ : Z.Warmed39 s.vm) {own C : String} {index count : Nat} {xi y : MethodName} (hown : s.vm.findClass own = some m.cls) (wl : (Cond.methodLink own index xi).before a0 Z = true) (wd : (Cond.declares xi).before a0 Z = true)
    (wf : (Cond.interfaceMethod xi.cls xi.cls xi.name xi.desc).before args s = true) (wsel : (Cond.selects C xi y).before a0 Z = true) (wi : (Cond.instanceMethod y).before a0 Z = true) (wpub : (Cond.publicMethod y).before a0 Z = true) (wun : (Cond.unhidden C xi.name xi.desc).before a0 Z = true) (wca : (Cond.castable C xi.cls).before a0 Z = true)
    {bytes : ByteArray} {maxL : Nat} {ret : Option FieldType} (wc : (Cond.code y bytes maxL ret).before a0 Z = true) (wz : (Cond.initialized y.cls).before a0 Z = true) (hy : xi.cls ≠ "java/lang/invoke/MethodHandle" ∧ xi.cls ≠ "java/lang/invoke/VarHandle")
    {rm : Room} {Q : Option Value → Heap → List Loc → Prop} {b : Addr} {argsL rest : List Value} (P : Pays l y bytes maxL ret rm Z (.ref b :: argsL).toArray h Q) (eT : T.heap = h) (E : Exa Z h b C) {pc : Nat} {Ls : Array Slot} {st : List Value} (hst : st = argsL.reverse ++ .ref b :: rest) (hsz : Ls.size = c.maxLocals) {ps : List FieldType} {r : Option FieldType} (hpd : parseMethodDescriptor xi.desc = some ⟨ps, r⟩) (hlen : argsL.length = ps.length)
    (hd : decode c.code pc = .ok (.invokeinterface index count, 5)) (W : Nat) (hW : (rest.map fun v => v.category).sum ≤ W) (hf : rm.frames + 1 ≤ R.frames) (hl : W + (maxL + 11) + rm.locals ≤ R.locals) (hc : cells + rm.cells ≤ R.cells) (hs : slots + rm.slots ≤ R.slots)
    (k : ∀ (v : Option Value) (T' : State) (L : List Loc), Stand p l e R s m args below meth c T' (locs ++ L) (cells + rm.cells) (slots + rm.slots) → Q v T'.heap L → Go p e below G (T'.setTop (mkF m (pc + 5) Ls (v.toList ++ rest)))) : Go p e below G (T.setTop (mkF m pc Ls st)) := by
  obtain ⟨cB, kB, hcB, hkB, hrecv⟩ := isOf hZ eT E
  obtain ⟨v, _, ⟨T', L', k', n'⟩, -, X', ⟨L, hQ, h1, h2, h3⟩, stp⟩ := X.interfaceBack hx hown (mvT hZ wl) (mvT hZ wd) wf (mvT hZ wsel) (mvT hZ wi) (mvT hZ wpub) (mvT hZ wun) (mvT hZ wca) hy (backOf (W := W) (P []) hZ wc wz hf hl) hcB hkB hrecv (g := mkF m pc Ls st) rfl hsz (Steps.refl _) (argsL := argsL) (rest := rest) (lenOf hpd hlen) hst (by show 2 * 0 + _ ≤ _; omega) hd (fun _ _ => ⟨rfl, eT, hc, hs⟩)
  dsimp only at X' hQ h1 h2 h3 stp
  subst h1 h2 h3
  exact Go.tr stp (k v T' L X' hQ)
/-- a call of a constructor, by its contract -/
theorem Go.init (X : Stand p l e R s m args below meth c T locs cells slots) (hx : p.tables.exec = Jvm.exec) (hZ : Z.Warmed39 s.vm) {own : String} {index : Nat} {y : MethodName} (hy1 : y.name = "<init>") (hown : s.vm.findClass own = some m.cls) (wl : (Cond.methodLink own index y).before a0 Z = true)
    (wi : (Cond.instanceMethod y).before a0 Z = true) {bytes : ByteArray} {maxL : Nat} (wc : (Cond.code y bytes maxL none).before a0 Z = true) (wz : (Cond.initialized y.cls).before a0 Z = true) (hy : y.cls ≠ "java/lang/invoke/MethodHandle" ∧ y.cls ≠ "java/lang/invoke/VarHandle")
    {rm : Room} {Q : Option Value → Heap → List Loc → Prop} {b : Addr} {argsL rest : List Value} (P : Pays l y bytes maxL none rm Z (.ref b :: argsL).toArray h Q) (eT : T.heap = h) {pc : Nat} {Ls : Array Slot} {st : List Value} (hst : st = argsL.reverse ++ .ref b :: rest) (hsz : Ls.size = c.maxLocals) {ps : List FieldType} {r : Option FieldType} (hpd : parseMethodDescriptor y.desc = some ⟨ps, r⟩) (hlen : argsL.length = ps.length)
    (hd : decode c.code pc = .ok (.invokespecial index, 3)) (W : Nat) (hW : (rest.map fun v => v.category).sum ≤ W) (hf : rm.frames + 1 ≤ R.frames) (hl : W + (maxL + 11) + rm.locals ≤ R.locals) (hc : cells + rm.cells ≤ R.cells) (hs : slots + rm.slots ≤ R.slots)
    (k : ∀ (v : Option Value) (T' : State) (L : List Loc), Stand p l e R s m args below meth c T' (locs ++ L) (cells + rm.cells) (slots + rm.slots) → Q v T'.heap L → Go p e below G (T'.setTop (mkF m (pc + 3) Ls (v.toList ++ rest)))) : Go p e below G (T.setTop (mkF m pc Ls st)) := by
  obtain ⟨v, _, ⟨T', L', k', n'⟩, -, X', ⟨L, hQ, h1, h2, h3⟩, stp⟩ := X.specialBack hx hy1 hown (mvT hZ wl) (mvT hZ wi) (mvT hZ wc) hy (backOf (W := W) (P []) hZ wc wz hf hl) (g := mkF m pc Ls st) rfl hsz (Steps.refl _) (a := b) (argsL := argsL) (rest := rest) (lenOf hpd hlen) hst (by show 2 * 0 + _ ≤ _; omega) hd (fun _ _ => ⟨rfl, eT, hc, hs⟩)
  dsimp only at X' hQ h1 h2 h3 stp
  subst h1 h2 h3
  exact Go.tr stp (k v T' L X' hQ)
/-- a call of a static method, by its contract -/
theorem Go.stat (X : Stand p l e R s m args below meth c T locs cells slots) (hx : p.tables.exec = Jvm.exec) (hZ : Z.Warmed39 s.vm) {own : String} {index : Nat} {y : MethodName} (hown : s.vm.findClass own = some m.cls) (wl : (Cond.methodLink own index y).before a0 Z = true)
    (wst : (Cond.static y).before a0 Z = true) (wz : (Cond.initialized y.cls).before a0 Z = true) {bytes : ByteArray} {maxL : Nat} {ret : Option FieldType} (wc : (Cond.code y bytes maxL ret).before a0 Z = true) (hy : y.cls ≠ "java/lang/invoke/MethodHandle" ∧ y.cls ≠ "java/lang/invoke/VarHandle")
    {rm : Room} {Q : Option Value → Heap → List Loc → Prop} {argsL rest : List Value} (P : Pays l y bytes maxL ret rm Z argsL.toArray h Q) (eT : T.heap = h) {pc : Nat} {Ls : Array Slot} {st : List Value} (hst : st = argsL.reverse ++ rest) (hsz : Ls.size = c.maxLocals) {ps : List FieldType} {r : Option FieldType} (hpd : parseMethodDescriptor y.desc = some ⟨ps, r⟩) (hlen : argsL.length = ps.length)
    (hd : decode c.code pc = .ok (.invokestatic index, 3)) (W : Nat) (hW : (rest.map fun v => v.category).sum ≤ W) (hf : rm.frames + 1 ≤ R.frames) (hl : W + (maxL + 11) + rm.locals ≤ R.locals) (hc : cells + rm.cells ≤ R.cells) (hs : slots + rm.slots ≤ R.slots)
    (k : ∀ (v : Option Value) (T' : State) (L : List Loc), Stand p l e R s m args below meth c T' (locs ++ L) (cells + rm.cells) (slots + rm.slots) → Q v T'.heap L → Go p e below G (T'.setTop (mkF m (pc + 3) Ls (v.toList ++ rest)))) : Go p e below G (T.setTop (mkF m pc Ls st)) := by
  obtain ⟨mk, hnamed⟩ := Cond.named_of_code (mvT (args := args) hZ wc)
  obtain ⟨methM, cM, hmeth, hcode, -, -, -, -, -, hsig⟩ := Cond.code_spec hnamed (mvT (args := args) hZ wc)
  obtain ⟨v, _, ⟨T', L', k', n'⟩, -, X', ⟨L, hQ, h1, h2, h3⟩, stp⟩ := X.staticBack hx hown (mvT hZ wl) (mvT hZ wst) (mvT hZ wz) hnamed hmeth hsig hy (backOf (W := W) (P []) hZ wc wz hf hl) (g := mkF m pc Ls st) rfl hsz (Steps.refl _) (argsL := argsL) (rest := rest) (lenOf hpd hlen) hst (by show 2 * 0 + _ ≤ _; omega) hd (fun _ _ => ⟨rfl, eT, hc, hs⟩)
  dsimp only at X' hQ h1 h2 h3 stp
  subst h1 h2 h3
  exact Go.tr stp (k v T' L X' hQ)
theorem own_alen (X : Stand p l e R s m args below meth c T locs cells slots) (hx : p.tables.exec = Jvm.exec) (hZ : Z.Warmed39 s.vm) (eT : T.heap = h) {a : Addr} {cl : Cell} {ty : FieldType} (A : Arr Z h a cl ty) {z : Int32} (q : cl.slots.size.toInt32 = z) {pc : Nat} {Ls : Array Slot} {st rest : List Value} (hst : st = .ref a :: rest)
    (hd : decode c.code pc = .ok (.arraylength, 1)) (target : State) (k : Steps p.tables e below (T.setTop (mkF m (pc + 1) Ls (.int z :: rest))) target) : Steps p.tables e below (T.setTop (mkF m pc Ls st)) target :=
  X.arraylength hx (by rw [eT]; exact A.1) (State.isArrayOf_alike hZ.alike A.2.1) (g := mkF m pc Ls st) rfl hst hd target (by rw [q]; exact k)
def ObjAt (h : Heap) (x : Addr) : Prop := ∃ cell : Cell, h[x]? = some cell ∧ cell.vm.isStatics = false
theorem own_obj_exa {x : Addr} {C : String} (F : Exa Z h x C) : ObjAt h x := by
  obtain ⟨c1, _, h1, _, _, h4, _⟩ := F
  exact ⟨c1, h1, h4⟩
theorem own_obj_arv {x : Addr} {k : ClassId} {ty : FieldType} {n : Int32} {vs : List Value} {d : Value} (F : Arv Z h x k ty n vs d) : ObjAt h x := by
  obtain ⟨c1, A, _⟩ := F
  exact ⟨c1, A.1, A.plain⟩
theorem own_sta_keep {h' : Heap} {C n d : String} {v : Value} {ws : List Addr} (F : Sta Z h C n d v) (K : Keep h h' ws) (hws : ∀ x ∈ ws, ObjAt h x) : Sta Z h' C n d v := by
  obtain ⟨cf, i, k, f, st, cell, h1, h2, h3, h4, h5, h6, h7⟩ := F
  refine ⟨cf, i, k, f, st, cell, h1, h2, h3, h4, K.2.1 _ _ h5 fun q => ?_, h6, h7⟩
  obtain ⟨c1, g1, g2⟩ := hws _ q
  cases h5.symm.trans g1
  rw [h6] at g2
  cases g2
theorem own_entry {n : Nat} {Ls : Array Slot} (h : Jvm.Sym.laidSlots args.toList ++ List.replicate (n - (Jvm.Sym.laidSlots args.toList).length) .unset = Ls.toList) : entryFrame m args n = mkF m 0 Ls [] := by
  have q : argsToLocals args n = Ls := Array.toList_inj.mp (by rw [Jvm.Sym.argsToLocals_toList]; exact h)
  unfold entryFrame
  rw [q]
theorem own_eqI {first : State} {o : Option Outcome} {idx : List Nat} {a b : Term} {x y : Int32} (ha : a.eval args first o idx s = some (.int x)) (hb : b.eval args first o idx s = some (.int y)) : (Jvm.Cond.eq a b).value args first o s idx = some (decide (x = y)) := by simp [Cond.value, ha, hb]
theorem own_nar_ref {t : FieldType} {v : Value} (hv : v.isRef = true) : narrow t v = v := by
  rcases ref_cases hv with rfl | ⟨a, rfl⟩ <;> cases t <;> rfl
theorem own_fit_ref {t : FieldType} {v : Value} (hv : v.isRef = true) (ht : t.isReference = true := by rfl) : fits t v = true := by
  rcases ref_cases hv with rfl | ⟨a, rfl⟩ <;> cases t <;> first | rfl | cases ht
end OwnGo
theorem d1_0 : decode method_2_code 0 = .ok (.iload_n 0, 1) := by decide +kernel
theorem d1_1 : decode method_2_code 1 = .ok (.iconst 1, 1) := by decide +kernel
theorem d1_2 : decode method_2_code 2 = .ok (.if_icmp .ne 7, 3) := by decide +kernel
theorem d1_5 : decode method_2_code 5 = .ok (.getstatic 7, 3) := by decide +kernel
theorem d1_8 : decode method_2_code 8 = .ok (.areturn, 1) := by decide +kernel
theorem d1_9 : decode method_2_code 9 = .ok (.iload_n 0, 1) := by decide +kernel
theorem d1_10 : decode method_2_code 10 = .ok (.iconst 2, 1) := by decide +kernel
theorem d1_11 : decode method_2_code 11 = .ok (.if_icmp .ne 7, 3) := by decide +kernel
theorem d1_14 : decode method_2_code 14 = .ok (.getstatic 13, 3) := by decide +kernel
theorem d1_17 : decode method_2_code 17 = .ok (.areturn, 1) := by decide +kernel
theorem d1_18 : decode method_2_code 18 = .ok (.iload_n 0, 1) := by decide +kernel
theorem d1_19 : decode method_2_code 19 = .ok (.iconst 3, 1) := by decide +kernel
theorem d1_20 : decode method_2_code 20 = .ok (.if_icmp .ne 7, 3) := by decide +kernel
theorem d1_23 : decode method_2_code 23 = .ok (.getstatic 16, 3) := by decide +kernel
theorem d1_26 : decode method_2_code 26 = .ok (.areturn, 1) := by decide +kernel
theorem d1_27 : decode method_2_code 27 = .ok (.iload_n 0, 1) := by decide +kernel
theorem d1_28 : decode method_2_code 28 = .ok (.iconst 4, 1) := by decide +kernel
theorem d1_29 : decode method_2_code 29 = .ok (.if_icmp .ne 7, 3) := by decide +kernel
theorem d1_32 : decode method_2_code 32 = .ok (.getstatic 19, 3) := by decide +kernel
theorem d1_35 : decode method_2_code 35 = .ok (.areturn, 1) := by decide +kernel
theorem d1_36 : decode method_2_code 36 = .ok (.aconst_null, 1) := by decide +kernel
theorem d1_37 : decode method_2_code 37 = .ok (.areturn, 1) := by decide +kernel
theorem pn_com_example_imprimatur_imprimatur_approval_ApprovalViewEndedPinLaw : plainName "com/example/imprimatur/imprimatur/approval/ApprovalViewEndedPinLaw" = true := by first | (simp [plainName, overriddenIn]; done) | decide +kernel
theorem ef_rm1 (m : MethodId) (p : Int32) : entryFrame m #[(.int p)] 1 = mkF m 0 #[.val (.int p)] [] := by first | exact own_entry rfl | (simp [entryFrame, mkF, argsToLocals, Value.category]; done) | rfl
set_option maxRecDepth 65536 in
set_option maxHeartbeats 40000000 in
theorem rm1 (l : Launch) (Z : State) (a0 : Array Value) (hw : ∀ d ∈ tables_1, d.before a0 Z = true) (p : Int32) (aA aR aB aS : Addr) (u : Value) (h0 : Heap) (n0 : Nat) (Z0 : n0 ≤ h0.size) (S_aA : Sta Z h0 "com/example/imprimatur/imprimatur/config/Outcome" "APPROVED" "Lcom/example/imprimatur/imprimatur/config/Outcome;" (.ref aA)) (S_aR : Sta Z h0 "com/example/imprimatur/imprimatur/config/Outcome" "REJECTED" "Lcom/example/imprimatur/imprimatur/config/Outcome;" (.ref aR)) (S_aB : Sta Z h0 "com/example/imprimatur/imprimatur/config/Outcome" "ABORTED" "Lcom/example/imprimatur/imprimatur/config/Outcome;" (.ref aB)) (S_aS : Sta Z h0 "com/example/imprimatur/imprimatur/config/Outcome" "SUPERSEDED" "Lcom/example/imprimatur/imprimatur/config/Outcome;" (.ref aS)) (hr : (if p = 1 then Value.ref aA else if p = 2 then Value.ref aR else if p = 3 then Value.ref aB else if p = 4 then Value.ref aS else Value.null) = u) :
    Pays l (⟨"com/example/imprimatur/imprimatur/approval/ApprovalViewEndedPinLaw", "pick", "(I)Lcom/example/imprimatur/imprimatur/config/Outcome;"⟩ : MethodName) method_2_code 1 (some (.object "com/example/imprimatur/imprimatur/config/Outcome")) ({ frames := 0, cells := 0, slots := 0, locals := 0 } : Room) Z #[(.int p)] h0 (fun v h L => v = some u ∧ Fr n0 L ∧ h = h0) := by
  refine Pays.of (plainFor_of_name pn_com_example_imprimatur_imprimatur_approval_ApprovalViewEndedPinLaw) ?_
  intro pP eE sS m below methM cC T hx hby hml hret hlk hZ hown hnm eT X
  replace hown : sS.vm.findClass "com/example/imprimatur/imprimatur/approval/ApprovalViewEndedPinLaw" = some m.cls := hown
  have N0 := Fr.nil n0
  refine Go.cast (ef_rm1 m p) ?_
  refine Go.st (S' := T.setTop (mkF m 1 #[.val (.int p)] [(.int p)])) (fun t kt => XS.iloadN X.here hx rfl (hb hby d1_0) rfl kt) ?_
  refine Go.st (S' := T.setTop (mkF m 2 #[.val (.int p)] [(.int (1 : Int32)), (.int p)])) (fun t kt => XS.iconst X.here hx rfl (hb hby d1_1) kt) ?_
  by_cases hc2_1 : p = (1 : Int32)
  · refine Go.st (S' := T.setTop (mkF m 5 #[.val (.int p)] [])) (fun t kt => XS.icmpNo X.here hx rfl (hb hby d1_2) rfl (XT.ii_ne_f hc2_1) kt) ?_
    obtain ⟨T2, X2, e2, st2⟩ := getS X hx hZ (host := "") hown (hw _ (List.mem_of_getElem? (i := 136) rfl)) Via.refl eT S_aA (g := (mkF m 5 #[.val (.int p)] [])) rfl (hb hby d1_5)
    refine Go.st (S' := T2.setTop (mkF m 8 #[.val (.int p)] [(.ref aA)])) (fun t kt => st2 t kt) ?_
    exact ret_a X2 hx hlk hret rfl rfl (hb hby d1_8) (by decide) (by decide) (⟨by rw [← hr]; simp [hc2_1], N0, e2⟩)
  · refine Go.st (S' := T.setTop (mkF m 9 #[.val (.int p)] [])) (fun t kt => XS.icmpYes X.here hx rfl (pc0 := 2) (pc' := 9) rfl (hb hby d1_2) rfl (XT.ii_ne_t hc2_1) (by decide) (by decide) kt) ?_
    refine Go.st (S' := T.setTop (mkF m 10 #[.val (.int p)] [(.int p)])) (fun t kt => XS.iloadN X.here hx rfl (hb hby d1_9) rfl kt) ?_
    refine Go.st (S' := T.setTop (mkF m 11 #[.val (.int p)] [(.int (2 : Int32)), (.int p)])) (fun t kt => XS.iconst X.here hx rfl (hb hby d1_10) kt) ?_
    by_cases hc11_3 : p = (2 : Int32)
    · refine Go.st (S' := T.setTop (mkF m 14 #[.val (.int p)] [])) (fun t kt => XS.icmpNo X.here hx rfl (hb hby d1_11) rfl (XT.ii_ne_f hc11_3) kt) ?_
      obtain ⟨T4, X4, e4, st4⟩ := getS X hx hZ (host := "") hown (hw _ (List.mem_of_getElem? (i := 131) rfl)) Via.refl eT S_aR (g := (mkF m 14 #[.val (.int p)] [])) rfl (hb hby d1_14)
      refine Go.st (S' := T4.setTop (mkF m 17 #[.val (.int p)] [(.ref aR)])) (fun t kt => st4 t kt) ?_
      exact ret_a X4 hx hlk hret rfl rfl (hb hby d1_17) (by decide) (by decide) (⟨by rw [← hr]; simp [hc2_1, hc11_3], N0, e4⟩)
    · refine Go.st (S' := T.setTop (mkF m 18 #[.val (.int p)] [])) (fun t kt => XS.icmpYes X.here hx rfl (pc0 := 11) (pc' := 18) rfl (hb hby d1_11) rfl (XT.ii_ne_t hc11_3) (by decide) (by decide) kt) ?_
      refine Go.st (S' := T.setTop (mkF m 19 #[.val (.int p)] [(.int p)])) (fun t kt => XS.iloadN X.here hx rfl (hb hby d1_18) rfl kt) ?_
      refine Go.st (S' := T.setTop (mkF m 20 #[.val (.int p)] [(.int (3 : Int32)), (.int p)])) (fun t kt => XS.iconst X.here hx rfl (hb hby d1_19) kt) ?_
      by_cases hc20_5 : p = (3 : Int32)
      · refine Go.st (S' := T.setTop (mkF m 23 #[.val (.int p)] [])) (fun t kt => XS.icmpNo X.here hx rfl (hb hby d1_20) rfl (XT.ii_ne_f hc20_5) kt) ?_
        obtain ⟨T6, X6, e6, st6⟩ := getS X hx hZ (host := "") hown (hw _ (List.mem_of_getElem? (i := 138) rfl)) Via.refl eT S_aB (g := (mkF m 23 #[.val (.int p)] [])) rfl (hb hby d1_23)
        refine Go.st (S' := T6.setTop (mkF m 26 #[.val (.int p)] [(.ref aB)])) (fun t kt => st6 t kt) ?_
        exact ret_a X6 hx hlk hret rfl rfl (hb hby d1_26) (by decide) (by decide) (⟨by rw [← hr]; simp [hc2_1, hc11_3, hc20_5], N0, e6⟩)
      · refine Go.st (S' := T.setTop (mkF m 27 #[.val (.int p)] [])) (fun t kt => XS.icmpYes X.here hx rfl (pc0 := 20) (pc' := 27) rfl (hb hby d1_20) rfl (XT.ii_ne_t hc20_5) (by decide) (by decide) kt) ?_
        refine Go.st (S' := T.setTop (mkF m 28 #[.val (.int p)] [(.int p)])) (fun t kt => XS.iloadN X.here hx rfl (hb hby d1_27) rfl kt) ?_
        refine Go.st (S' := T.setTop (mkF m 29 #[.val (.int p)] [(.int (4 : Int32)), (.int p)])) (fun t kt => XS.iconst X.here hx rfl (hb hby d1_28) kt) ?_
        by_cases hc29_7 : p = (4 : Int32)
        · refine Go.st (S' := T.setTop (mkF m 32 #[.val (.int p)] [])) (fun t kt => XS.icmpNo X.here hx rfl (hb hby d1_29) rfl (XT.ii_ne_f hc29_7) kt) ?_
          obtain ⟨T8, X8, e8, st8⟩ := getS X hx hZ (host := "") hown (hw _ (List.mem_of_getElem? (i := 134) rfl)) Via.refl eT S_aS (g := (mkF m 32 #[.val (.int p)] [])) rfl (hb hby d1_32)
          refine Go.st (S' := T8.setTop (mkF m 35 #[.val (.int p)] [(.ref aS)])) (fun t kt => st8 t kt) ?_
          exact ret_a X8 hx hlk hret rfl rfl (hb hby d1_35) (by decide) (by decide) (⟨by rw [← hr]; simp [hc2_1, hc11_3, hc20_5, hc29_7], N0, e8⟩)
        · refine Go.st (S' := T.setTop (mkF m 36 #[.val (.int p)] [])) (fun t kt => XS.icmpYes X.here hx rfl (pc0 := 29) (pc' := 36) rfl (hb hby d1_29) rfl (XT.ii_ne_t hc29_7) (by decide) (by decide) kt) ?_
          refine Go.st (S' := T.setTop (mkF m 37 #[.val (.int p)] [.null])) (fun t kt => XS.aconstNull X.here hx rfl (hb hby d1_36) kt) ?_
          exact ret_a X hx hlk hret rfl rfl (hb hby d1_37) (by decide) (by decide) (⟨by rw [← hr]; simp [hc2_1, hc11_3, hc20_5, hc29_7], N0, eT⟩)
theorem dVE_0 : decode jdk_43_method_3_code 0 = .ok (.iload_n 0, 1) := by decide +kernel
theorem dVE_1 : decode jdk_43_method_3_code 1 = .ok (.sipush 255, 3) := by decide +kernel
theorem dVE_4 : decode jdk_43_method_3_code 4 = .ok (.if_icmp .gt 7, 3) := by decide +kernel
theorem dVE_7 : decode jdk_43_method_3_code 7 = .ok (.iconst 1, 1) := by decide +kernel
theorem dVE_8 : decode jdk_43_method_3_code 8 = .ok (.goto 4, 3) := by decide +kernel
theorem dVE_12 : decode jdk_43_method_3_code 12 = .ok (.ireturn, 1) := by decide +kernel
theorem pn_java_lang_StringLatin1 : plainName "java/lang/StringLatin1" = true := by first | (simp [plainName, overriddenIn]; done) | decide +kernel
theorem ef_rmVE (m : MethodId) (c : Int32) : entryFrame m #[(.int c)] 1 = mkF m 0 #[.val (.int c)] [] := by first | exact own_entry rfl | (simp [entryFrame, mkF, argsToLocals, Value.category]; done) | rfl
set_option maxRecDepth 65536 in
set_option maxHeartbeats 40000000 in
theorem rmVE (l : Launch) (Z : State) (a0 : Array Value) (hw : ∀ d ∈ tables_1, d.before a0 Z = true) (c : Int32) (h0 : Heap) (n0 : Nat) (Z0 : n0 ≤ h0.size) (hle : ¬ (255 : Int32) < c) :
    Pays l (⟨"java/lang/StringLatin1", "canEncode", "(C)Z"⟩ : MethodName) jdk_43_method_3_code 1 (some .boolean) ({ frames := 0, cells := 0, slots := 0, locals := 0 } : Room) Z #[(.int c)] h0 (fun v h L => v = some (.int 1) ∧ Fr n0 L ∧ h = h0) := by
  refine Pays.of (plainFor_of_name pn_java_lang_StringLatin1) ?_
  intro pP eE sS m below methM cC T hx hby hml hret hlk hZ hown hnm eT X
  replace hown : sS.vm.findClass "java/lang/StringLatin1" = some m.cls := hown
  have N0 := Fr.nil n0
  refine Go.cast (ef_rmVE m c) ?_
  refine Go.st (S' := T.setTop (mkF m 1 #[.val (.int c)] [(.int c)])) (fun t kt => XS.iloadN X.here hx rfl (hb hby dVE_0) rfl kt) ?_
  refine Go.st (S' := T.setTop (mkF m 4 #[.val (.int c)] [(.int (255 : Int32)), (.int c)])) (fun t kt => XT.sipushV X.here hx rfl (255 : Int32) (hb hby dVE_1) (by decide) kt) ?_
  refine Go.st (S' := T.setTop (mkF m 7 #[.val (.int c)] [])) (fun t kt => XS.icmpNo X.here hx rfl (hb hby dVE_4) rfl (XT.ii_gt_f hle) kt) ?_
  refine Go.st (S' := T.setTop (mkF m 8 #[.val (.int c)] [(.int (1 : Int32))])) (fun t kt => XS.iconst X.here hx rfl (hb hby dVE_7) kt) ?_
  refine Go.st (S' := T.setTop (mkF m 12 #[.val (.int c)] [(.int (1 : Int32))])) (fun t kt => XS.goto X.here hx rfl (pc0 := 8) (pc' := 12) rfl (hb hby dVE_8) (by decide) (by decide) kt) ?_
  exact ret_b X hx hlk hret (hb hby dVE_12) (by decide) (by decide) (⟨rfl, N0, eT⟩)
theorem dVT_0 : decode jdk_43_method_46_code 0 = .ok (.iconst 1, 1) := by decide +kernel
theorem dVT_1 : decode jdk_43_method_46_code 1 = .ok (.newarray .byte, 2) := by decide +kernel
theorem dVT_3 : decode jdk_43_method_46_code 3 = .ok (.dup, 1) := by decide +kernel
theorem dVT_4 : decode jdk_43_method_46_code 4 = .ok (.iconst 0, 1) := by decide +kernel
theorem dVT_5 : decode jdk_43_method_46_code 5 = .ok (.iload_n 0, 1) := by decide +kernel
theorem dVT_6 : decode jdk_43_method_46_code 6 = .ok (.i2b, 1) := by decide +kernel
theorem dVT_7 : decode jdk_43_method_46_code 7 = .ok (.bastore, 1) := by decide +kernel
theorem dVT_8 : decode jdk_43_method_46_code 8 = .ok (.areturn, 1) := by decide +kernel
theorem ef_rmVT (m : MethodId) (c : Int32) : entryFrame m #[(.int c)] 1 = mkF m 0 #[.val (.int c)] [] := by first | exact own_entry rfl | (simp [entryFrame, mkF, argsToLocals, Value.category]; done) | rfl
set_option maxRecDepth 65536 in
set_option maxHeartbeats 40000000 in
theorem rmVT (l : Launch) (Z : State) (a0 : Array Value) (hw : ∀ d ∈ tables_1, d.before a0 Z = true) (c : Int32) (h0 : Heap) (n0 : Nat) (Z0 : n0 ≤ h0.size) :
    Pays l (⟨"java/lang/StringLatin1", "toBytes", "(C)[B"⟩ : MethodName) jdk_43_method_46_code 1 (some (.array .byte)) ({ frames := 0, cells := 1, slots := 1, locals := 0 } : Room) Z #[(.int c)] h0 (fun v h L => ∃ d k, v = some (.ref d) ∧ Fr n0 L ∧ Keep h0 h [] ∧ h0.size ≤ d ∧ n0 ≤ d ∧ Arv Z h d k .byte (1 : Int32) [(.int (nar .byte (c).toInt8.toInt32))] (.int (0 : Int32))) := by
  refine Pays.of (plainFor_of_name pn_java_lang_StringLatin1) ?_
  intro pP eE sS m below methM cC T hx hby hml hret hlk hZ hown hnm eT X
  replace hown : sS.vm.findClass "java/lang/StringLatin1" = some m.cls := hown
  have N0 := Fr.nil n0
  have K0 := Keep.refl h0 ([] : List Addr)
  refine Go.cast (ef_rmVT m c) ?_
  refine Go.st (S' := T.setTop (mkF m 1 #[.val (.int c)] [(.int (1 : Int32))])) (fun t kt => XS.iconst X.here hx rfl (hb hby dVT_0) kt) ?_
  obtain ⟨T1, h1, k1, X1, e1, E1, A1, st1⟩ := newP X hx hZ (hw _ (List.mem_of_getElem? (i := 19) rfl)) eT (g := (mkF m 1 #[.val (.int c)] [(.int (1 : Int32))])) rfl (hb hby dVT_1) rfl (by decide) (cap := 1) (by decide) (by decide) (by decide) (by decide)
  obtain ⟨a1, g1⟩ : ∃ z, z = h0.size := ⟨_, rfl⟩
  rw [← g1] at A1 st1
  have V1 : Arv Z h1 a1 k1 .byte (1 : Int32) [(.int (0 : Int32))] (.int (0 : Int32)) := Arv.pad (Arv.new A1 (by decide)) (pad_rep [] _ 1)
  have Z1 : n0 ≤ h1.size := Nat.le_trans Z0 E1.1
  have K1 := Keep.ext K0 E1
  have sz_a1 : h0.size ≤ a1 := Nat.le_trans K0.1 (Nat.le_of_eq g1.symm)
  refine Go.st (S' := T1.setTop (mkF m 3 #[.val (.int c)] [(.ref a1)])) (fun t kt => st1 t kt) ?_
  refine Go.st (S' := T1.setTop (mkF m 4 #[.val (.int c)] [(.ref a1), (.ref a1)])) (fun t kt => XS.dup X1.here hx rfl (hb hby dVT_3) rfl rfl kt) ?_
  refine Go.st (S' := T1.setTop (mkF m 5 #[.val (.int c)] [(.int (0 : Int32)), (.ref a1), (.ref a1)])) (fun t kt => XS.iconst X1.here hx rfl (hb hby dVT_4) kt) ?_
  refine Go.st (S' := T1.setTop (mkF m 6 #[.val (.int c)] [(.int c), (.int (0 : Int32)), (.ref a1), (.ref a1)])) (fun t kt => XS.iloadN X1.here hx rfl (hb hby dVT_5) rfl kt) ?_
  refine Go.st (S' := T1.setTop (mkF m 7 #[.val (.int c)] [(.int (c).toInt8.toInt32), (.int (0 : Int32)), (.ref a1), (.ref a1)])) (fun t kt => XT.i2b X1.here hx rfl (hb hby dVT_6) rfl kt) ?_
  obtain ⟨cl2, Ar2, q2, S2, M2, H2, G2⟩ := id V1
  obtain ⟨T2, h2, X2, e2, W2, st2⟩ := stB X1 hx hZ e1 Ar2 (j := (0 : Int32)) (inb_of S2 ⟨by decide, by decide⟩)  (g := (mkF m 7 #[.val (.int c)] [(.int (c).toInt8.toInt32), (.int (0 : Int32)), (.ref a1), (.ref a1)])) rfl rfl (hb hby dVT_7)
  have V2 : Arv Z h2 a1 k1 .byte (1 : Int32) [(.int (nar .byte (c).toInt8.toInt32))] (.int (0 : Int32)) := Arv.set Ar2 q2 S2 M2 H2 G2 (fits_nar_byte _) W2 0 rfl (Nat.le_of_ble_eq_true rfl)
  have N2 := Fr.snoc X2 N0 (Nat.le_trans Z0 (Nat.le_of_eq g1.symm))
  have Z2 : n0 ≤ h2.size := by rw [Wr.size W2]; exact Z1
  have K2 := Keep.wr K1 W2 (Or.inr sz_a1)
  refine Go.st (S' := T2.setTop (mkF m 8 #[.val (.int c)] [(.ref a1)])) (fun t kt => st2 t kt) ?_
  exact ret_a X2 hx hlk hret rfl rfl (hb hby dVT_8) (by decide) (by decide) (by rw [e2]; exact ⟨_, _, rfl, N2, K2, sz_a1, (Nat.le_trans Z0 (Nat.le_of_eq g1.symm)), V2⟩)
theorem dVI_0 : decode jdk_42_method_151_code 0 = .ok (.aload_n 0, 1) := by decide +kernel
theorem dVI_1 : decode jdk_42_method_151_code 1 = .ok (.invokespecial 1, 3) := by decide +kernel
theorem dVI_4 : decode jdk_42_method_151_code 4 = .ok (.aload_n 0, 1) := by decide +kernel
theorem dVI_5 : decode jdk_42_method_151_code 5 = .ok (.aload_n 1, 1) := by decide +kernel
theorem dVI_6 : decode jdk_42_method_151_code 6 = .ok (.putfield 9, 3) := by decide +kernel
theorem dVI_9 : decode jdk_42_method_151_code 9 = .ok (.aload_n 0, 1) := by decide +kernel
theorem dVI_10 : decode jdk_42_method_151_code 10 = .ok (.iload_n 2, 1) := by decide +kernel
theorem dVI_11 : decode jdk_42_method_151_code 11 = .ok (.putfield 15, 3) := by decide +kernel
theorem dVI_14 : decode jdk_42_method_151_code 14 = .ok (.return_, 1) := by decide +kernel
theorem pn_java_lang_String : plainName "java/lang/String" = true := by first | (simp [plainName, overriddenIn]; done) | decide +kernel
theorem ef_rmVI (m : MethodId) (a : Addr) (d : Addr) : entryFrame m #[(.ref a), (.ref d), (.int (0 : Int32))] 3 = mkF m 0 #[.val (.ref a), .val (.ref d), .val (.int (0 : Int32))] [] := by first | exact own_entry rfl | (simp [entryFrame, mkF, argsToLocals, Value.category]; done) | rfl
set_option maxRecDepth 65536 in
set_option maxHeartbeats 40000000 in
theorem rmVI (l : Launch) (Z : State) (a0 : Array Value) (hw : ∀ d ∈ tables_1, d.before a0 Z = true) (a d : Addr) (h0 : Heap) (n0 : Nat) (Z0 : n0 ≤ h0.size) (E_a : Exa Z h0 a "java/lang/String") (ha : n0 ≤ a) (F_value : Fld Z h0 a "java/lang/String" "value" "[B" .null) (F_coder : Fld Z h0 a "java/lang/String" "coder" "B" (.int (0 : Int32))) :
    Pays l (⟨"java/lang/String", "<init>", "([BB)V"⟩ : MethodName) jdk_42_method_151_code 3 none ({ frames := 1, cells := 0, slots := 0, locals := 12 } : Room) Z #[(.ref a), (.ref d), (.int (0 : Int32))] h0 (fun v h L => v = none ∧ Fr n0 L ∧ Keep h0 h [a] ∧ Exa Z h a "java/lang/String" ∧ Fld Z h a "java/lang/String" "value" "[B" (.ref d) ∧ Fld Z h a "java/lang/String" "coder" "B" (.int (0 : Int32))) := by
  refine Pays.of (plainFor_of_name pn_java_lang_String) ?_
  intro pP eE sS m below methM cC T hx hby hml hret hlk hZ hown hnm eT X
  replace hown : sS.vm.findClass "java/lang/String" = some m.cls := hown
  have N0 := Fr.nil n0
  have K0 := Keep.refl h0 [a]
  refine Go.cast (ef_rmVI m a d) ?_
  refine Go.st (S' := T.setTop (mkF m 1 #[.val (.ref a), .val (.ref d), .val (.int (0 : Int32))] [(.ref a)])) (fun t kt => XS.aloadN X.here hx rfl (hb hby dVI_0) rfl rfl kt) ?_
  obtain ⟨T1, X1, e1, st1⟩ := initO X hx hZ hown (hw _ (List.mem_of_getElem? (i := 24) rfl)) (hw _ (List.mem_of_getElem? (i := 25) rfl)) (hw _ (List.mem_of_getElem? (i := 26) rfl)) eT (g := (mkF m 1 #[.val (.ref a), .val (.ref d), .val (.int (0 : Int32))] [(.ref a)])) rfl (by rw [hml]; rfl) rfl (hb hby dVI_1) (by decide) (W := 0) (by show 2 * 0 + _ ≤ _; exact Nat.le_of_eq rfl) (by decide)
  refine Go.st (S' := T1.setTop (mkF m 4 #[.val (.ref a), .val (.ref d), .val (.int (0 : Int32))] [])) (fun t kt => st1 t kt) ?_
  refine Go.st (S' := T1.setTop (mkF m 5 #[.val (.ref a), .val (.ref d), .val (.int (0 : Int32))] [(.ref a)])) (fun t kt => XS.aloadN X1.here hx rfl (hb hby dVI_4) rfl rfl kt) ?_
  refine Go.st (S' := T1.setTop (mkF m 6 #[.val (.ref a), .val (.ref d), .val (.int (0 : Int32))] [(.ref d), (.ref a)])) (fun t kt => XS.aloadN X1.here hx rfl (hb hby dVI_5) rfl rfl kt) ?_
  obtain ⟨T2, h2, X2, e2, W2, st2⟩ := putF X1 hx hZ hown (host := "") (Or.inl (hw _ (List.mem_of_getElem? (i := 27) rfl))) Via.refl e1 F_value E_a (Or.inr ⟨(hw _ (List.mem_of_getElem? (i := 28) rfl)), rfl, hnm⟩) (hw _ (List.mem_of_getElem? (i := 15) rfl)) (ty := (.array .byte)) (by decide) rfl rfl (g := (mkF m 6 #[.val (.ref a), .val (.ref d), .val (.int (0 : Int32))] [(.ref d), (.ref a)])) rfl rfl (hb hby dVI_6)
  have F2 := Fld.same W2 F_value
  have N2 := Fr.snoc X2 N0 ha
  have Z2 : n0 ≤ h2.size := by rw [Wr.size W2]; exact Z0
  have K2 := Keep.wr K0 W2 (Or.inl (List.mem_of_getElem? (i := 0) rfl))
  refine Go.st (S' := T2.setTop (mkF m 9 #[.val (.ref a), .val (.ref d), .val (.int (0 : Int32))] [])) (fun t kt => st2 t kt) ?_
  refine Go.st (S' := T2.setTop (mkF m 10 #[.val (.ref a), .val (.ref d), .val (.int (0 : Int32))] [(.ref a)])) (fun t kt => XS.aloadN X2.here hx rfl (hb hby dVI_9) rfl rfl kt) ?_
  refine Go.st (S' := T2.setTop (mkF m 11 #[.val (.ref a), .val (.ref d), .val (.int (0 : Int32))] [(.int (0 : Int32)), (.ref a)])) (fun t kt => XS.iloadN X2.here hx rfl (hb hby dVI_10) rfl kt) ?_
  have f3 := (Fld.other W2 F_coder (Or.inr (slot_ne (Or.inr (hw _ (List.mem_of_getElem? (i := 30) rfl))) (Or.inr (hw _ (List.mem_of_getElem? (i := 28) rfl))) (by decide) (t := .byte) (t' := (.array .byte)) (by decide) (by decide))))
  have f4 := (Exa.wr W2 E_a)
  obtain ⟨T5, h5, X5, e5, W5, st5⟩ := putF X2 hx hZ hown (host := "") (Or.inl (hw _ (List.mem_of_getElem? (i := 29) rfl))) Via.refl e2 f3 f4 (Or.inr ⟨(hw _ (List.mem_of_getElem? (i := 30) rfl)), rfl, hnm⟩) (hw _ (List.mem_of_getElem? (i := 15) rfl)) (ty := .byte) (by decide) rfl rfl (g := (mkF m 11 #[.val (.ref a), .val (.ref d), .val (.int (0 : Int32))] [(.int (0 : Int32)), (.ref a)])) rfl rfl (hb hby dVI_11)
  have F5 := Fld.same W5 f3
  have N5 := Fr.snoc X5 N2 ha
  have Z5 : n0 ≤ h5.size := by rw [Wr.size W5]; exact Z2
  have K5 := Keep.wr K2 W5 (Or.inl (List.mem_of_getElem? (i := 0) rfl))
  refine Go.st (S' := T5.setTop (mkF m 14 #[.val (.ref a), .val (.ref d), .val (.int (0 : Int32))] [])) (fun t kt => st5 t kt) ?_
  have f6 := (Exa.wr W5 f4)
  have f7 := (Fld.other W5 F2 (Or.inr (slot_ne (Or.inr (hw _ (List.mem_of_getElem? (i := 28) rfl))) (Or.inr (hw _ (List.mem_of_getElem? (i := 30) rfl))) (by decide) (t := (.array .byte)) (t' := .byte) (by decide) (by decide))))
  exact ret_v X5 hx hlk hret (hb hby dVI_14) (by decide) (by decide) (by rw [e5]; exact ⟨rfl, N5, K5, f6, f7, F5⟩)
theorem dVO_0 : decode jdk_42_method_139_code 0 = .ok (.getstatic 38, 3) := by decide +kernel
theorem dVO_3 : decode jdk_42_method_139_code 3 = .ok (.ifCond .eq 23, 3) := by decide +kernel
theorem dVO_6 : decode jdk_42_method_139_code 6 = .ok (.iload_n 0, 1) := by decide +kernel
theorem dVO_7 : decode jdk_42_method_139_code 7 = .ok (.invokestatic 1015, 3) := by decide +kernel
theorem dVO_10 : decode jdk_42_method_139_code 10 = .ok (.ifCond .eq 16, 3) := by decide +kernel
theorem dVO_13 : decode jdk_42_method_139_code 13 = .ok (.new 10, 3) := by decide +kernel
theorem dVO_16 : decode jdk_42_method_139_code 16 = .ok (.dup, 1) := by decide +kernel
theorem dVO_17 : decode jdk_42_method_139_code 17 = .ok (.iload_n 0, 1) := by decide +kernel
theorem dVO_18 : decode jdk_42_method_139_code 18 = .ok (.invokestatic 1018, 3) := by decide +kernel
theorem dVO_21 : decode jdk_42_method_139_code 21 = .ok (.iconst 0, 1) := by decide +kernel
theorem dVO_22 : decode jdk_42_method_139_code 22 = .ok (.invokespecial 209, 3) := by decide +kernel
theorem dVO_25 : decode jdk_42_method_139_code 25 = .ok (.areturn, 1) := by decide +kernel
theorem pd__C_Z : parseMethodDescriptor "(C)Z" = some ⟨[.char], some .boolean⟩ := by decide +kernel
theorem pd__C__B : parseMethodDescriptor "(C)[B" = some ⟨[.char], some (.array .byte)⟩ := by decide +kernel
theorem pd___BB_V : parseMethodDescriptor "([BB)V" = some ⟨[(.array .byte), .byte], none⟩ := by decide +kernel
theorem ef_rmVO (m : MethodId) (c : Int32) : entryFrame m #[(.int c)] 1 = mkF m 0 #[.val (.int c)] [] := by first | exact own_entry rfl | (simp [entryFrame, mkF, argsToLocals, Value.category]; done) | rfl
set_option maxRecDepth 65536 in
set_option maxHeartbeats 40000000 in
theorem rmVO (l : Launch) (Z : State) (a0 : Array Value) (hw : ∀ d ∈ tables_1, d.before a0 Z = true) (c : Int32) (h0 : Heap) (n0 : Nat) (Z0 : n0 ≤ h0.size) (cs : Int32) (S_cs : Sta Z h0 "java/lang/String" "COMPACT_STRINGS" "Z" (.int cs)) (hcs : ¬ cs = 0) (hle : ¬ (255 : Int32) < c) :
    Pays l (⟨"java/lang/String", "valueOf", "(C)Ljava/lang/String;"⟩ : MethodName) jdk_42_method_139_code 1 (some (.object "java/lang/String")) ({ frames := 2, cells := 2, slots := 5, locals := 27 } : Room) Z #[(.int c)] h0 (fun v h L => ∃ b d k, v = some (.ref b) ∧ Fr n0 L ∧ Keep h0 h [] ∧ h0.size ≤ b ∧ n0 ≤ b ∧ h0.size ≤ d ∧ n0 ≤ d ∧ Exa Z h b "java/lang/String" ∧ Fld Z h b "java/lang/String" "value" "[B" (.ref d) ∧ Fld Z h b "java/lang/String" "coder" "B" (.int (0 : Int32)) ∧ Arv Z h d k .byte (1 : Int32) [(.int (nar .byte (c).toInt8.toInt32))] (.int (0 : Int32))) := by
  refine Pays.of (plainFor_of_name pn_java_lang_String) ?_
  intro pP eE sS m below methM cC T hx hby hml hret hlk hZ hown hnm eT X
  replace hown : sS.vm.findClass "java/lang/String" = some m.cls := hown
  have N0 := Fr.nil n0
  have K0 := Keep.refl h0 ([] : List Addr)
  refine Go.cast (ef_rmVO m c) ?_
  obtain ⟨T1, X1, e1, st1⟩ := getS X hx hZ (host := "") hown (hw _ (List.mem_of_getElem? (i := 9) rfl)) Via.refl eT S_cs (g := (mkF m 0 #[.val (.int c)] [])) rfl (hb hby dVO_0)
  refine Go.st (S' := T1.setTop (mkF m 3 #[.val (.int c)] [(.int cs)])) (fun t kt => st1 t kt) ?_
  refine Go.st (S' := T1.setTop (mkF m 6 #[.val (.int c)] [])) (fun t kt => XS.ifNo X1.here hx rfl (hb hby dVO_3) rfl (XT.i0_eq_f hcs) kt) ?_
  refine Go.st (S' := T1.setTop (mkF m 7 #[.val (.int c)] [(.int c)])) (fun t kt => XS.iloadN X1.here hx rfl (hb hby dVO_6) rfl kt) ?_
  refine Go.stat X1 hx hZ hown (hw _ (List.mem_of_getElem? (i := 10) rfl)) (hw _ (List.mem_of_getElem? (i := 11) rfl)) (hw _ (List.mem_of_getElem? (i := 12) rfl)) (hw _ (List.mem_of_getElem? (i := 13) rfl)) (by decide) (argsL := [(.int c)]) (rest := []) (rmVE l Z a0 hw c h0 n0 Z0 hle) e1 rfl (by rw [hml]; rfl) pd__C_Z rfl (hb hby dVO_7) 0 (Nat.le_refl _) (by decide) (by decide) (by decide) (by decide) ?_
  intro v2 T2 L2 X2 hQ2
  obtain ⟨hv2, N2', e2⟩ := hQ2
  subst hv2
  have N2 := Fr.app N0 N2'
  show Go pP eE below _ (T2.setTop (mkF m 10 #[.val (.int c)] [(.int (1 : Int32))]))
  refine Go.st (S' := T2.setTop (mkF m 13 #[.val (.int c)] [])) (fun t kt => XS.ifNo X2.here hx rfl (hb hby dVO_10) rfl (XT.i0_eq_f (by decide)) kt) ?_
  obtain ⟨T3, h3, X3, e3, E3, A3, D3, -, st3⟩ := newO X2 hx hZ hown (hw _ (List.mem_of_getElem? (i := 14) rfl)) (hw _ (List.mem_of_getElem? (i := 15) rfl)) (hw _ (List.mem_of_getElem? (i := 7) rfl)) e2 (g := (mkF m 13 #[.val (.int c)] [])) rfl (hb hby dVO_13) (by decide) (by decide)
  obtain ⟨a3, g3⟩ : ∃ z, z = h0.size := ⟨_, rfl⟩
  rw [← g3] at A3 D3 st3
  have Z3 : n0 ≤ h3.size := Nat.le_trans Z0 E3.1
  have F3_value : Fld Z h3 a3 "java/lang/String" "value" "[B" .null := D3 (Or.inr (hw _ (List.mem_of_getElem? (i := 28) rfl))) (ty := (.array .byte)) (by decide)
  have F3_coder : Fld Z h3 a3 "java/lang/String" "coder" "B" (.int (0 : Int32)) := D3 (Or.inr (hw _ (List.mem_of_getElem? (i := 30) rfl))) (ty := .byte) (by decide)
  have K3 := Keep.ext K0 E3
  have sz_a3 : h0.size ≤ a3 := Nat.le_trans K0.1 (Nat.le_of_eq g3.symm)
  refine Go.st (S' := T3.setTop (mkF m 16 #[.val (.int c)] [(.ref a3)])) (fun t kt => st3 t kt) ?_
  refine Go.st (S' := T3.setTop (mkF m 17 #[.val (.int c)] [(.ref a3), (.ref a3)])) (fun t kt => XS.dup X3.here hx rfl (hb hby dVO_16) rfl rfl kt) ?_
  refine Go.st (S' := T3.setTop (mkF m 18 #[.val (.int c)] [(.int c), (.ref a3), (.ref a3)])) (fun t kt => XS.iloadN X3.here hx rfl (hb hby dVO_17) rfl kt) ?_
  refine Go.stat X3 hx hZ hown (hw _ (List.mem_of_getElem? (i := 16) rfl)) (hw _ (List.mem_of_getElem? (i := 17) rfl)) (hw _ (List.mem_of_getElem? (i := 12) rfl)) (hw _ (List.mem_of_getElem? (i := 18) rfl)) (by decide) (argsL := [(.int c)]) (rest := [(.ref a3), (.ref a3)]) (rmVT l Z a0 hw c h3 n0 Z3) e3 rfl (by rw [hml]; rfl) pd__C__B rfl (hb hby dVO_18) 2 (Nat.le_refl _) (by decide) (by decide) (by decide) (by decide) ?_
  intro v4 T4 L4 X4 hQ4
  obtain ⟨d4, k4, hv4, N4', K4', y4_0, u4_0, f4_0⟩ := hQ4
  subst hv4
  have N4 := Fr.app N2 N4'
  have Z4 : n0 ≤ T4.heap.size := Nat.le_trans Z3 K4'.1
  have eh4 : T4.heap = T4.heap := rfl
  have sz_d4 : h0.size ≤ d4 := Nat.le_trans K3.1 y4_0
  have K4 := Keep.trans K3 K4' all0
  show Go pP eE below _ (T4.setTop (mkF m 21 #[.val (.int c)] [(.ref d4), (.ref a3), (.ref a3)]))
  refine Go.st (S' := T4.setTop (mkF m 22 #[.val (.int c)] [(.int (0 : Int32)), (.ref d4), (.ref a3), (.ref a3)])) (fun t kt => XS.iconst X4.here hx rfl (hb hby dVO_21) kt) ?_
  have f5 := (A3.keep K4')
  have f6 := (F3_value.keep K4' nin0)
  have f7 := (F3_coder.keep K4' nin0)
  refine Go.init X4 hx hZ rfl hown (hw _ (List.mem_of_getElem? (i := 20) rfl)) (hw _ (List.mem_of_getElem? (i := 21) rfl)) (hw _ (List.mem_of_getElem? (i := 23) rfl)) (hw _ (List.mem_of_getElem? (i := 7) rfl)) (by decide) (b := a3) (argsL := [(.ref d4), (.int (0 : Int32))]) (rest := [(.ref a3)]) (rmVI l Z a0 hw a3 d4 T4.heap n0 Z4 f5 (Nat.le_trans Z0 (Nat.le_of_eq g3.symm)) f6 f7) eh4 rfl (by rw [hml]; rfl) pd___BB_V rfl (hb hby dVO_22) 1 (Nat.le_refl _) (by decide) (by decide) (by decide) (by decide) ?_
  intro v8 T8 L8 X8 hQ8
  obtain ⟨hv8, N8', K8', f8_0, f8_1, f8_2⟩ := hQ8
  subst hv8
  have N8 := Fr.app N4 N8'
  have Z8 : n0 ≤ T8.heap.size := Nat.le_trans Z4 K8'.1
  have eh8 : T8.heap = T8.heap := rfl
  have K8 := Keep.trans K4 K8' (allS (Or.inr sz_a3) all0)
  show Go pP eE below _ (T8.setTop (mkF m 25 #[.val (.int c)] [(.ref a3)]))
  have f9 := (f4_0.keep K8' (ninS (Ne.symm (Nat.ne_of_lt (Nat.lt_of_lt_of_le A3.lt y4_0))) nin0))
  exact ret_a X8 hx hlk hret rfl rfl (hb hby dVO_25) (by decide) (by decide) (⟨_, _, _, rfl, N8, K8, sz_a3, (Nat.le_trans Z0 (Nat.le_of_eq g3.symm)), sz_d4, u4_0, f8_0, f8_1, f8_2, f9⟩)
theorem dAC_0 : decode jdk_22_method_1_code 0 = .ok (.aload_n 0, 1) := by decide +kernel
theorem dAC_1 : decode jdk_22_method_1_code 1 = .ok (.invokespecial 1, 3) := by decide +kernel
theorem dAC_4 : decode jdk_22_method_1_code 4 = .ok (.return_, 1) := by decide +kernel
theorem pn_java_util_AbstractCollection : plainName "java/util/AbstractCollection" = true := by first | (simp [plainName, overriddenIn]; done) | decide +kernel
theorem ef_rmAC (m : MethodId) (a : Addr) : entryFrame m #[(.ref a)] 1 = mkF m 0 #[.val (.ref a)] [] := by first | exact own_entry rfl | (simp [entryFrame, mkF, argsToLocals, Value.category]; done) | rfl
set_option maxRecDepth 65536 in
set_option maxHeartbeats 40000000 in
theorem rmAC (l : Launch) (Z : State) (a0 : Array Value) (hw : ∀ d ∈ tables_1, d.before a0 Z = true) (a : Addr) (h0 : Heap) (n0 : Nat) (Z0 : n0 ≤ h0.size) :
    Pays l (⟨"java/util/AbstractCollection", "<init>", "()V"⟩ : MethodName) jdk_22_method_1_code 1 none ({ frames := 1, cells := 0, slots := 0, locals := 12 } : Room) Z #[(.ref a)] h0 (fun v h L => v = none ∧ Fr n0 L ∧ h = h0) := by
  refine Pays.of (plainFor_of_name pn_java_util_AbstractCollection) ?_
  intro pP eE sS m below methM cC T hx hby hml hret hlk hZ hown hnm eT X
  replace hown : sS.vm.findClass "java/util/AbstractCollection" = some m.cls := hown
  have N0 := Fr.nil n0
  refine Go.cast (ef_rmAC m a) ?_
  refine Go.st (S' := T.setTop (mkF m 1 #[.val (.ref a)] [(.ref a)])) (fun t kt => XS.aloadN X.here hx rfl (hb hby dAC_0) rfl rfl kt) ?_
  obtain ⟨T1, X1, e1, st1⟩ := initO X hx hZ hown (hw _ (List.mem_of_getElem? (i := 49) rfl)) (hw _ (List.mem_of_getElem? (i := 25) rfl)) (hw _ (List.mem_of_getElem? (i := 26) rfl)) eT (g := (mkF m 1 #[.val (.ref a)] [(.ref a)])) rfl (by rw [hml]; rfl) rfl (hb hby dAC_1) (by decide) (W := 0) (by show 2 * 0 + _ ≤ _; exact Nat.le_of_eq rfl) (by decide)
  refine Go.st (S' := T1.setTop (mkF m 4 #[.val (.ref a)] [])) (fun t kt => st1 t kt) ?_
  exact ret_v X1 hx hlk hret (hb hby dAC_4) (by decide) (by decide) (⟨rfl, N0, e1⟩)
theorem dAB_0 : decode jdk_39_method_1_code 0 = .ok (.aload_n 0, 1) := by decide +kernel
theorem dAB_1 : decode jdk_39_method_1_code 1 = .ok (.invokespecial 1, 3) := by decide +kernel
theorem dAB_4 : decode jdk_39_method_1_code 4 = .ok (.aload_n 0, 1) := by decide +kernel
theorem dAB_5 : decode jdk_39_method_1_code 5 = .ok (.iconst 0, 1) := by decide +kernel
theorem dAB_6 : decode jdk_39_method_1_code 6 = .ok (.putfield 7, 3) := by decide +kernel
theorem dAB_9 : decode jdk_39_method_1_code 9 = .ok (.return_, 1) := by decide +kernel
theorem pd___V : parseMethodDescriptor "()V" = some ⟨[], none⟩ := by decide +kernel
theorem pn_java_util_AbstractList : plainName "java/util/AbstractList" = true := by first | (simp [plainName, overriddenIn]; done) | decide +kernel
theorem ef_rmAB (m : MethodId) (a : Addr) : entryFrame m #[(.ref a)] 1 = mkF m 0 #[.val (.ref a)] [] := by first | exact own_entry rfl | (simp [entryFrame, mkF, argsToLocals, Value.category]; done) | rfl
set_option maxRecDepth 65536 in
set_option maxHeartbeats 40000000 in
theorem rmAB (l : Launch) (Z : State) (a0 : Array Value) (hw : ∀ d ∈ tables_1, d.before a0 Z = true) (a : Addr) (h0 : Heap) (n0 : Nat) (Z0 : n0 ≤ h0.size) (E_a : Exa Z h0 a "java/util/ArrayList") (ha : n0 ≤ a) (F_m : Fld Z h0 a "java/util/AbstractList" "modCount" "I" (.int (0 : Int32))) (F_elementData : Fld Z h0 a "java/util/ArrayList" "elementData" "[Ljava/lang/Object;" .null) (F_size : Fld Z h0 a "java/util/ArrayList" "size" "I" (.int (0 : Int32))) :
    Pays l (⟨"java/util/AbstractList", "<init>", "()V"⟩ : MethodName) jdk_39_method_1_code 1 none ({ frames := 2, cells := 0, slots := 0, locals := 24 } : Room) Z #[(.ref a)] h0 (fun v h L => v = none ∧ Fr n0 L ∧ Keep h0 h [a] ∧ Exa Z h a "java/util/ArrayList" ∧ Fld Z h a "java/util/AbstractList" "modCount" "I" (.int (0 : Int32)) ∧ Fld Z h a "java/util/ArrayList" "elementData" "[Ljava/lang/Object;" .null ∧ Fld Z h a "java/util/ArrayList" "size" "I" (.int (0 : Int32))) := by
  refine Pays.of (plainFor_of_name pn_java_util_AbstractList) ?_
  intro pP eE sS m below methM cC T hx hby hml hret hlk hZ hown hnm eT X
  replace hown : sS.vm.findClass "java/util/AbstractList" = some m.cls := hown
  have N0 := Fr.nil n0
  have K0 := Keep.refl h0 [a]
  refine Go.cast (ef_rmAB m a) ?_
  refine Go.st (S' := T.setTop (mkF m 1 #[.val (.ref a)] [(.ref a)])) (fun t kt => XS.aloadN X.here hx rfl (hb hby dAB_0) rfl rfl kt) ?_
  refine Go.init X hx hZ rfl hown (hw _ (List.mem_of_getElem? (i := 43) rfl)) (hw _ (List.mem_of_getElem? (i := 44) rfl)) (hw _ (List.mem_of_getElem? (i := 48) rfl)) (hw _ (List.mem_of_getElem? (i := 47) rfl)) (by decide) (b := a) (argsL := []) (rest := []) (rmAC l Z a0 hw a h0 n0 Z0) eT rfl (by rw [hml]; rfl) pd___V rfl (hb hby dAB_1) 0 (Nat.le_refl _) (by decide) (by decide) (by decide) (by decide) ?_
  intro v1 T1 L1 X1 hQ1
  obtain ⟨hv1, N1', e1⟩ := hQ1
  subst hv1
  have N1 := Fr.app N0 N1'
  show Go pP eE below _ (T1.setTop (mkF m 4 #[.val (.ref a)] []))
  refine Go.st (S' := T1.setTop (mkF m 5 #[.val (.ref a)] [(.ref a)])) (fun t kt => XS.aloadN X1.here hx rfl (hb hby dAB_4) rfl rfl kt) ?_
  refine Go.st (S' := T1.setTop (mkF m 6 #[.val (.ref a)] [(.int (0 : Int32)), (.ref a)])) (fun t kt => XS.iconst X1.here hx rfl (hb hby dAB_5) kt) ?_
  obtain ⟨T2, h2, X2, e2, W2, st2⟩ := putF X1 hx hZ hown (host := "") (Or.inl (hw _ (List.mem_of_getElem? (i := 50) rfl))) Via.refl e1 F_m E_a (Or.inl (hw _ (List.mem_of_getElem? (i := 51) rfl))) (hw _ (List.mem_of_getElem? (i := 32) rfl)) (ty := .int) (by decide) rfl rfl (g := (mkF m 6 #[.val (.ref a)] [(.int (0 : Int32)), (.ref a)])) rfl rfl (hb hby dAB_6)
  have F2 := Fld.same W2 F_m
  have N2 := Fr.snoc X2 N1 ha
  have Z2 : n0 ≤ h2.size := by rw [Wr.size W2]; exact Z0
  have K2 := Keep.wr K0 W2 (Or.inl (List.mem_of_getElem? (i := 0) rfl))
  refine Go.st (S' := T2.setTop (mkF m 9 #[.val (.ref a)] [])) (fun t kt => st2 t kt) ?_
  have f3 := (Exa.wr W2 E_a)
  have f4 := (Fld.other W2 F_elementData (Or.inr (slot_ne (Or.inl (hw _ (List.mem_of_getElem? (i := 54) rfl))) (Or.inl (hw _ (List.mem_of_getElem? (i := 51) rfl))) (by decide) (t := (.array (.object "java/lang/Object"))) (t' := .int) (by decide) (by decide))))
  have f5 := (Fld.other W2 F_size (Or.inr (slot_ne (Or.inl (hw _ (List.mem_of_getElem? (i := 67) rfl))) (Or.inl (hw _ (List.mem_of_getElem? (i := 51) rfl))) (by decide) (t := .int) (t' := .int) (by decide) (by decide))))
  exact ret_v X2 hx hlk hret (hb hby dAB_9) (by decide) (by decide) (by rw [e2]; exact ⟨rfl, N2, K2, f3, F2, f4, f5⟩)
theorem dAL_0 : decode jdk_38_method_2_code 0 = .ok (.aload_n 0, 1) := by decide +kernel
theorem dAL_1 : decode jdk_38_method_2_code 1 = .ok (.invokespecial 1, 3) := by decide +kernel
theorem dAL_4 : decode jdk_38_method_2_code 4 = .ok (.aload_n 0, 1) := by decide +kernel
theorem dAL_5 : decode jdk_38_method_2_code 5 = .ok (.getstatic 39, 3) := by decide +kernel
theorem dAL_8 : decode jdk_38_method_2_code 8 = .ok (.putfield 9, 3) := by decide +kernel
theorem dAL_11 : decode jdk_38_method_2_code 11 = .ok (.return_, 1) := by decide +kernel
theorem pn_java_util_ArrayList : plainName "java/util/ArrayList" = true := by first | (simp [plainName, overriddenIn]; done) | decide +kernel
theorem ef_rmAL (m : MethodId) (a : Addr) : entryFrame m #[(.ref a)] 1 = mkF m 0 #[.val (.ref a)] [] := by first | exact own_entry rfl | (simp [entryFrame, mkF, argsToLocals, Value.category]; done) | rfl
set_option maxRecDepth 65536 in
set_option maxHeartbeats 40000000 in
theorem rmAL (l : Launch) (Z : State) (a0 : Array Value) (hw : ∀ d ∈ tables_1, d.before a0 Z = true) (a aD : Addr) (h0 : Heap) (n0 : Nat) (Z0 : n0 ≤ h0.size) (E_a : Exa Z h0 a "java/util/ArrayList") (ha : n0 ≤ a) (F_m : Fld Z h0 a "java/util/AbstractList" "modCount" "I" (.int (0 : Int32))) (F_elementData : Fld Z h0 a "java/util/ArrayList" "elementData" "[Ljava/lang/Object;" .null) (F_size : Fld Z h0 a "java/util/ArrayList" "size" "I" (.int (0 : Int32))) (S_D : Sta Z h0 "java/util/ArrayList" "DEFAULTCAPACITY_EMPTY_ELEMENTDATA" "[Ljava/lang/Object;" (.ref aD)) :
    Pays l (⟨"java/util/ArrayList", "<init>", "()V"⟩ : MethodName) jdk_38_method_2_code 1 none ({ frames := 3, cells := 0, slots := 0, locals := 36 } : Room) Z #[(.ref a)] h0 (fun v h L => v = none ∧ Fr n0 L ∧ Keep h0 h [a] ∧ Exa Z h a "java/util/ArrayList" ∧ Fld Z h a "java/util/AbstractList" "modCount" "I" (.int (0 : Int32)) ∧ Fld Z h a "java/util/ArrayList" "elementData" "[Ljava/lang/Object;" (.ref aD) ∧ Fld Z h a "java/util/ArrayList" "size" "I" (.int (0 : Int32))) := by
  refine Pays.of (plainFor_of_name pn_java_util_ArrayList) ?_
  intro pP eE sS m below methM cC T hx hby hml hret hlk hZ hown hnm eT X
  replace hown : sS.vm.findClass "java/util/ArrayList" = some m.cls := hown
  have N0 := Fr.nil n0
  have K0 := Keep.refl h0 [a]
  refine Go.cast (ef_rmAL m a) ?_
  refine Go.st (S' := T.setTop (mkF m 1 #[.val (.ref a)] [(.ref a)])) (fun t kt => XS.aloadN X.here hx rfl (hb hby dAL_0) rfl rfl kt) ?_
  refine Go.init X hx hZ rfl hown (hw _ (List.mem_of_getElem? (i := 37) rfl)) (hw _ (List.mem_of_getElem? (i := 38) rfl)) (hw _ (List.mem_of_getElem? (i := 42) rfl)) (hw _ (List.mem_of_getElem? (i := 41) rfl)) (by decide) (b := a) (argsL := []) (rest := []) (rmAB l Z a0 hw a h0 n0 Z0 E_a ha F_m F_elementData F_size) eT rfl (by rw [hml]; rfl) pd___V rfl (hb hby dAL_1) 0 (Nat.le_refl _) (by decide) (by decide) (by decide) (by decide) ?_
  intro v1 T1 L1 X1 hQ1
  obtain ⟨hv1, N1', K1', f1_0, f1_1, f1_2, f1_3⟩ := hQ1
  subst hv1
  have N1 := Fr.app N0 N1'
  have Z1 : n0 ≤ T1.heap.size := Nat.le_trans Z0 K1'.1
  have eh1 : T1.heap = T1.heap := rfl
  have K1 := Keep.trans K0 K1' (allS (Or.inl (List.mem_of_getElem? (i := 0) rfl)) all0)
  show Go pP eE below _ (T1.setTop (mkF m 4 #[.val (.ref a)] []))
  refine Go.st (S' := T1.setTop (mkF m 5 #[.val (.ref a)] [(.ref a)])) (fun t kt => XS.aloadN X1.here hx rfl (hb hby dAL_4) rfl rfl kt) ?_
  have f2 := (own_sta_keep S_D K1' (allS (own_obj_exa E_a) all0))
  obtain ⟨T3, X3, e3, st3⟩ := getS X1 hx hZ (host := "") hown (hw _ (List.mem_of_getElem? (i := 52) rfl)) Via.refl eh1 f2 (g := (mkF m 5 #[.val (.ref a)] [(.ref a)])) rfl (hb hby dAL_5)
  refine Go.st (S' := T3.setTop (mkF m 8 #[.val (.ref a)] [(.ref aD), (.ref a)])) (fun t kt => st3 t kt) ?_
  obtain ⟨T4, h4, X4, e4, W4, st4⟩ := putF X3 hx hZ hown (host := "") (Or.inl (hw _ (List.mem_of_getElem? (i := 53) rfl))) Via.refl e3 f1_2 f1_0 (Or.inl (hw _ (List.mem_of_getElem? (i := 54) rfl))) (hw _ (List.mem_of_getElem? (i := 32) rfl)) (ty := (.array (.object "java/lang/Object"))) (by decide) rfl rfl (g := (mkF m 8 #[.val (.ref a)] [(.ref aD), (.ref a)])) rfl rfl (hb hby dAL_8)
  have F4 := Fld.same W4 f1_2
  have N4 := Fr.snoc X4 N1 ha
  have Z4 : n0 ≤ h4.size := by rw [Wr.size W4]; exact Z1
  have K4 := Keep.wr K1 W4 (Or.inl (List.mem_of_getElem? (i := 0) rfl))
  refine Go.st (S' := T4.setTop (mkF m 11 #[.val (.ref a)] [])) (fun t kt => st4 t kt) ?_
  have f5 := (Exa.wr W4 f1_0)
  have f6 := (Fld.other W4 f1_1 (Or.inr (slot_ne (Or.inl (hw _ (List.mem_of_getElem? (i := 51) rfl))) (Or.inl (hw _ (List.mem_of_getElem? (i := 54) rfl))) (by decide) (t := .int) (t' := (.array (.object "java/lang/Object"))) (by decide) (by decide))))
  have f7 := (Fld.other W4 f1_3 (Or.inr (slot_ne (Or.inl (hw _ (List.mem_of_getElem? (i := 67) rfl))) (Or.inl (hw _ (List.mem_of_getElem? (i := 54) rfl))) (by decide) (t := .int) (t' := (.array (.object "java/lang/Object"))) (by decide) (by decide))))
  exact ret_v X4 hx hlk hret (hb hby dAL_11) (by decide) (by decide) (by rw [e4]; exact ⟨rfl, N4, K4, f5, f6, F4, f7⟩)
theorem dMX_0 : decode jdk_29_method_65_code 0 = .ok (.iload_n 0, 1) := by decide +kernel
theorem dMX_1 : decode jdk_29_method_65_code 1 = .ok (.iload_n 1, 1) := by decide +kernel
theorem dMX_2 : decode jdk_29_method_65_code 2 = .ok (.if_icmp .lt 7, 3) := by decide +kernel
theorem dMX_5 : decode jdk_29_method_65_code 5 = .ok (.iload_n 0, 1) := by decide +kernel
theorem dMX_6 : decode jdk_29_method_65_code 6 = .ok (.goto 4, 3) := by decide +kernel
theorem dMX_9 : decode jdk_29_method_65_code 9 = .ok (.iload_n 1, 1) := by decide +kernel
theorem dMX_10 : decode jdk_29_method_65_code 10 = .ok (.ireturn, 1) := by decide +kernel
theorem ef_rmMX (m : MethodId) (p : Int32) (q : Int32) : entryFrame m #[(.int p), (.int q)] 2 = mkF m 0 #[.val (.int p), .val (.int q)] [] := by first | exact own_entry rfl | (simp [entryFrame, mkF, argsToLocals, Value.category]; done) | rfl
set_option maxRecDepth 65536 in
set_option maxHeartbeats 40000000 in
theorem rmMX (l : Launch) (Z : State) (a0 : Array Value) (hw : ∀ d ∈ tables_1, d.before a0 Z = true) (p q r : Int32) (h0 : Heap) (n0 : Nat) (Z0 : n0 ≤ h0.size) (hr : r = if p < q then q else p) :
    Pays l (⟨"java/lang/Math", "max", "(II)I"⟩ : MethodName) jdk_29_method_65_code 2 (some .int) ({ frames := 0, cells := 0, slots := 0, locals := 0 } : Room) Z #[(.int p), (.int q)] h0 (fun v h L => v = some (.int r) ∧ Fr n0 L ∧ h = h0) := by
  refine Pays.of (Jvm.Free.JP.mathPlain rfl (by decide +kernel)) ?_
  intro pP eE sS m below methM cC T hx hby hml hret hlk hZ hown hnm eT X
  replace hown : sS.vm.findClass "java/lang/Math" = some m.cls := hown
  have N0 := Fr.nil n0
  refine Go.cast (ef_rmMX m p q) ?_
  refine Go.st (S' := T.setTop (mkF m 1 #[.val (.int p), .val (.int q)] [(.int p)])) (fun t kt => XS.iloadN X.here hx rfl (hb hby dMX_0) rfl kt) ?_
  refine Go.st (S' := T.setTop (mkF m 2 #[.val (.int p), .val (.int q)] [(.int q), (.int p)])) (fun t kt => XS.iloadN X.here hx rfl (hb hby dMX_1) rfl kt) ?_
  by_cases hc2_1 : p < q
  · refine Go.st (S' := T.setTop (mkF m 9 #[.val (.int p), .val (.int q)] [])) (fun t kt => XS.icmpYes X.here hx rfl (pc0 := 2) (pc' := 9) rfl (hb hby dMX_2) rfl (XT.ii_lt_t hc2_1) (by decide) (by decide) kt) ?_
    refine Go.st (S' := T.setTop (mkF m 10 #[.val (.int p), .val (.int q)] [(.int q)])) (fun t kt => XS.iloadN X.here hx rfl (hb hby dMX_9) rfl kt) ?_
    exact ret_i X hx hlk hret (hb hby dMX_10) (by decide) (by decide) (⟨by rw [hr]; simp [hc2_1], N0, eT⟩)
  · refine Go.st (S' := T.setTop (mkF m 5 #[.val (.int p), .val (.int q)] [])) (fun t kt => XS.icmpNo X.here hx rfl (hb hby dMX_2) rfl (XT.ii_lt_f hc2_1) kt) ?_
    refine Go.st (S' := T.setTop (mkF m 6 #[.val (.int p), .val (.int q)] [(.int p)])) (fun t kt => XS.iloadN X.here hx rfl (hb hby dMX_5) rfl kt) ?_
    refine Go.st (S' := T.setTop (mkF m 10 #[.val (.int p), .val (.int q)] [(.int p)])) (fun t kt => XS.goto X.here hx rfl (pc0 := 6) (pc' := 10) rfl (hb hby dMX_6) (by decide) (by decide) kt) ?_
    exact ret_i X hx hlk hret (hb hby dMX_10) (by decide) (by decide) (⟨by rw [hr]; simp [hc2_1], N0, eT⟩)
theorem dG1_0 : decode jdk_38_method_6_code 0 = .ok (.aload_n 0, 1) := by decide +kernel
theorem dG1_1 : decode jdk_38_method_6_code 1 = .ok (.getfield 9, 3) := by decide +kernel
theorem dG1_4 : decode jdk_38_method_6_code 4 = .ok (.arraylength, 1) := by decide +kernel
theorem dG1_5 : decode jdk_38_method_6_code 5 = .ok (.istore_n 2, 1) := by decide +kernel
theorem dG1_6 : decode jdk_38_method_6_code 6 = .ok (.iload_n 2, 1) := by decide +kernel
theorem dG1_7 : decode jdk_38_method_6_code 7 = .ok (.ifCond .gt 13, 3) := by decide +kernel
theorem dG1_10 : decode jdk_38_method_6_code 10 = .ok (.aload_n 0, 1) := by decide +kernel
theorem dG1_11 : decode jdk_38_method_6_code 11 = .ok (.getfield 9, 3) := by decide +kernel
theorem dG1_14 : decode jdk_38_method_6_code 14 = .ok (.getstatic 39, 3) := by decide +kernel
theorem dG1_17 : decode jdk_38_method_6_code 17 = .ok (.if_acmp .eq 28, 3) := by decide +kernel
theorem dG1_45 : decode jdk_38_method_6_code 45 = .ok (.aload_n 0, 1) := by decide +kernel
theorem dG1_46 : decode jdk_38_method_6_code 46 = .ok (.bipush 10, 2) := by decide +kernel
theorem dG1_48 : decode jdk_38_method_6_code 48 = .ok (.iload_n 1, 1) := by decide +kernel
theorem dG1_49 : decode jdk_38_method_6_code 49 = .ok (.invokestatic 79, 3) := by decide +kernel
theorem dG1_52 : decode jdk_38_method_6_code 52 = .ok (.anewarray 7, 3) := by decide +kernel
theorem dG1_55 : decode jdk_38_method_6_code 55 = .ok (.dup_x1, 1) := by decide +kernel
theorem dG1_56 : decode jdk_38_method_6_code 56 = .ok (.putfield 9, 3) := by decide +kernel
theorem dG1_59 : decode jdk_38_method_6_code 59 = .ok (.areturn, 1) := by decide +kernel
theorem pd__II_I : parseMethodDescriptor "(II)I" = some ⟨[.int, .int], some .int⟩ := by decide +kernel
theorem ef_rmG1 (m : MethodId) (a : Addr) : entryFrame m #[(.ref a), (.int (1 : Int32))] 4 = mkF m 0 #[.val (.ref a), .val (.int (1 : Int32)), .unset, .unset] [] := by first | exact own_entry rfl | (simp [entryFrame, mkF, argsToLocals, Value.category]; done) | rfl
set_option maxRecDepth 65536 in
set_option maxHeartbeats 40000000 in
theorem rmG1 (l : Launch) (Z : State) (a0 : Array Value) (hw : ∀ d ∈ tables_1, d.before a0 Z = true) (a aD : Addr) (kD : ClassId) (mc : Int32) (h0 : Heap) (n0 : Nat) (Z0 : n0 ≤ h0.size) (E_a : Exa Z h0 a "java/util/ArrayList") (ha : n0 ≤ a) (F_m : Fld Z h0 a "java/util/AbstractList" "modCount" "I" (.int mc)) (F_e : Fld Z h0 a "java/util/ArrayList" "elementData" "[Ljava/lang/Object;" (.ref aD)) (F_s : Fld Z h0 a "java/util/ArrayList" "size" "I" (.int (0 : Int32))) (S_D : Sta Z h0 "java/util/ArrayList" "DEFAULTCAPACITY_EMPTY_ELEMENTDATA" "[Ljava/lang/Object;" (.ref aD)) (V_D : Arv Z h0 aD kD (.object "java/lang/Object") (0 : Int32) [] .null) (hD : aD ≠ a) :
    Pays l (⟨"java/util/ArrayList", "grow", "(I)[Ljava/lang/Object;"⟩ : MethodName) jdk_38_method_6_code 4 (some (.array (.object "java/lang/Object"))) ({ frames := 1, cells := 1, slots := 10, locals := 14 } : Room) Z #[(.ref a), (.int (1 : Int32))] h0 (fun v h L => ∃ e k, v = some (.ref e) ∧ Fr n0 L ∧ Keep h0 h [a] ∧ h0.size ≤ e ∧ n0 ≤ e ∧ Exa Z h a "java/util/ArrayList" ∧ Fld Z h a "java/util/AbstractList" "modCount" "I" (.int mc) ∧ Fld Z h a "java/util/ArrayList" "elementData" "[Ljava/lang/Object;" (.ref e) ∧ Fld Z h a "java/util/ArrayList" "size" "I" (.int (0 : Int32)) ∧ Arv Z h e k (.object "java/lang/Object") (10 : Int32) [.null, .null, .null, .null, .null, .null, .null, .null, .null, .null] .null ∧ Ovr Z k "java/lang/Object") := by
  refine Pays.of (plainFor_of_name pn_java_util_ArrayList) ?_
  intro pP eE sS m below methM cC T hx hby hml hret hlk hZ hown hnm eT X
  replace hown : sS.vm.findClass "java/util/ArrayList" = some m.cls := hown
  have N0 := Fr.nil n0
  have K0 := Keep.refl h0 [a]
  refine Go.cast (ef_rmG1 m a) ?_
  refine Go.st (S' := T.setTop (mkF m 1 #[.val (.ref a), .val (.int (1 : Int32)), .unset, .unset] [(.ref a)])) (fun t kt => XS.aloadN X.here hx rfl (hb hby dG1_0) rfl rfl kt) ?_
  obtain ⟨T1, X1, e1, st1⟩ := getF X hx hZ hown (host := "") (Or.inl (hw _ (List.mem_of_getElem? (i := 53) rfl))) Via.refl eT F_e (g := (mkF m 1 #[.val (.ref a), .val (.int (1 : Int32)), .unset, .unset] [(.ref a)])) rfl rfl (hb hby dG1_1)
  refine Go.st (S' := T1.setTop (mkF m 4 #[.val (.ref a), .val (.int (1 : Int32)), .unset, .unset] [(.ref aD)])) (fun t kt => st1 t kt) ?_
  obtain ⟨cl2, Ar2, q2, S2, M2, H2, G2⟩ := id V_D
  refine Go.st (S' := T1.setTop (mkF m 5 #[.val (.ref a), .val (.int (1 : Int32)), .unset, .unset] [(.int (0 : Int32))])) (fun t kt => own_alen X1 hx hZ e1 Ar2 (len_of S2 M2) rfl (hb hby dG1_4) t kt) ?_
  refine Go.st (S' := T1.setTop (mkF m 6 #[.val (.ref a), .val (.int (1 : Int32)), .val (.int (0 : Int32)), .unset] [])) (fun t kt => XS.istoreN X1.here hx rfl (hb hby dG1_5) rfl rfl kt) ?_
  refine Go.st (S' := T1.setTop (mkF m 7 #[.val (.ref a), .val (.int (1 : Int32)), .val (.int (0 : Int32)), .unset] [(.int (0 : Int32))])) (fun t kt => XS.iloadN X1.here hx rfl (hb hby dG1_6) rfl kt) ?_
  refine Go.st (S' := T1.setTop (mkF m 10 #[.val (.ref a), .val (.int (1 : Int32)), .val (.int (0 : Int32)), .unset] [])) (fun t kt => XS.ifNo X1.here hx rfl (hb hby dG1_7) rfl (XT.i0_gt_f (by decide)) kt) ?_
  refine Go.st (S' := T1.setTop (mkF m 11 #[.val (.ref a), .val (.int (1 : Int32)), .val (.int (0 : Int32)), .unset] [(.ref a)])) (fun t kt => XS.aloadN X1.here hx rfl (hb hby dG1_10) rfl rfl kt) ?_
  obtain ⟨T3, X3, e3, st3⟩ := getF X1 hx hZ hown (host := "") (Or.inl (hw _ (List.mem_of_getElem? (i := 53) rfl))) Via.refl e1 F_e (g := (mkF m 11 #[.val (.ref a), .val (.int (1 : Int32)), .val (.int (0 : Int32)), .unset] [(.ref a)])) rfl rfl (hb hby dG1_11)
  refine Go.st (S' := T3.setTop (mkF m 14 #[.val (.ref a), .val (.int (1 : Int32)), .val (.int (0 : Int32)), .unset] [(.ref aD)])) (fun t kt => st3 t kt) ?_
  obtain ⟨T4, X4, e4, st4⟩ := getS X3 hx hZ (host := "") hown (hw _ (List.mem_of_getElem? (i := 52) rfl)) Via.refl e3 S_D (g := (mkF m 14 #[.val (.ref a), .val (.int (1 : Int32)), .val (.int (0 : Int32)), .unset] [(.ref aD)])) rfl (hb hby dG1_14)
  refine Go.st (S' := T4.setTop (mkF m 17 #[.val (.ref a), .val (.int (1 : Int32)), .val (.int (0 : Int32)), .unset] [(.ref aD), (.ref aD)])) (fun t kt => st4 t kt) ?_
  refine Go.st (S' := T4.setTop (mkF m 45 #[.val (.ref a), .val (.int (1 : Int32)), .val (.int (0 : Int32)), .unset] [])) (fun t kt => XT.acmpYes X4.here hx rfl (pc0 := 17) (pc' := 45) rfl (hb hby dG1_17) rfl rfl rfl (XT.aa_eq_t rfl) (by decide) (by decide) kt) ?_
  refine Go.st (S' := T4.setTop (mkF m 46 #[.val (.ref a), .val (.int (1 : Int32)), .val (.int (0 : Int32)), .unset] [(.ref a)])) (fun t kt => XS.aloadN X4.here hx rfl (hb hby dG1_45) rfl rfl kt) ?_
  refine Go.st (S' := T4.setTop (mkF m 48 #[.val (.ref a), .val (.int (1 : Int32)), .val (.int (0 : Int32)), .unset] [(.int (10 : Int32)), (.ref a)])) (fun t kt => XT.bipushV X4.here hx rfl (10 : Int32) (hb hby dG1_46) (by decide) kt) ?_
  refine Go.st (S' := T4.setTop (mkF m 49 #[.val (.ref a), .val (.int (1 : Int32)), .val (.int (0 : Int32)), .unset] [(.int (1 : Int32)), (.int (10 : Int32)), (.ref a)])) (fun t kt => XS.iloadN X4.here hx rfl (hb hby dG1_48) rfl kt) ?_
  refine Go.stat X4 hx hZ hown (hw _ (List.mem_of_getElem? (i := 83) rfl)) (hw _ (List.mem_of_getElem? (i := 84) rfl)) (hw _ (List.mem_of_getElem? (i := 85) rfl)) (hw _ (List.mem_of_getElem? (i := 86) rfl)) (by decide) (argsL := [(.int (10 : Int32)), (.int (1 : Int32))]) (rest := [(.ref a)]) (rmMX l Z a0 hw (10 : Int32) (1 : Int32) (10 : Int32) h0 n0 Z0 (by decide)) e4 rfl (by rw [hml]; rfl) pd__II_I rfl (hb hby dG1_49) 1 (Nat.le_refl _) (by decide) (by decide) (by decide) (by decide) ?_
  intro v5 T5 L5 X5 hQ5
  obtain ⟨hv5, N5', e5⟩ := hQ5
  subst hv5
  have N5 := Fr.app N0 N5'
  show Go pP eE below _ (T5.setTop (mkF m 52 #[.val (.ref a), .val (.int (1 : Int32)), .val (.int (0 : Int32)), .unset] [(.int (10 : Int32)), (.ref a)]))
  obtain ⟨T6, h6, k6, X6, e6, E6, A6, O6, st6⟩ := newR X5 hx hZ hown (hw _ (List.mem_of_getElem? (i := 87) rfl)) (hw _ (List.mem_of_getElem? (i := 88) rfl)) e5 (g := (mkF m 52 #[.val (.ref a), .val (.int (1 : Int32)), .val (.int (0 : Int32)), .unset] [(.int (10 : Int32)), (.ref a)])) rfl (hb hby dG1_52) rfl (by decide) (cap := 10) (by decide) (by decide) (by decide) (by decide)
  obtain ⟨a6, g6⟩ : ∃ z, z = h0.size := ⟨_, rfl⟩
  rw [← g6] at A6 st6
  have V6 : Arv Z h6 a6 k6 (.object "java/lang/Object") (10 : Int32) [.null, .null, .null, .null, .null, .null, .null, .null, .null, .null] .null := Arv.pad (Arv.new A6 (by decide)) (pad_rep [] _ 10)
  have Z6 : n0 ≤ h6.size := Nat.le_trans Z0 E6.1
  have K6 := Keep.ext K0 E6
  have sz_a6 : h0.size ≤ a6 := Nat.le_trans K0.1 (Nat.le_of_eq g6.symm)
  refine Go.st (S' := T6.setTop (mkF m 55 #[.val (.ref a), .val (.int (1 : Int32)), .val (.int (0 : Int32)), .unset] [(.ref a6), (.ref a)])) (fun t kt => st6 t kt) ?_
  refine Go.st (S' := T6.setTop (mkF m 56 #[.val (.ref a), .val (.int (1 : Int32)), .val (.int (0 : Int32)), .unset] [(.ref a6), (.ref a), (.ref a6)])) (fun t kt => XT.dupX1 X6.here hx rfl (hb hby dG1_55) rfl rfl rfl kt) ?_
  have f7 := (F_e.ext E6)
  have f8 := (E_a.ext E6)
  obtain ⟨T9, h9, X9, e9, W9, st9⟩ := putF X6 hx hZ hown (host := "") (Or.inl (hw _ (List.mem_of_getElem? (i := 53) rfl))) Via.refl e6 f7 f8 (Or.inl (hw _ (List.mem_of_getElem? (i := 54) rfl))) (hw _ (List.mem_of_getElem? (i := 32) rfl)) (ty := (.array (.object "java/lang/Object"))) (by decide) rfl rfl (g := (mkF m 56 #[.val (.ref a), .val (.int (1 : Int32)), .val (.int (0 : Int32)), .unset] [(.ref a6), (.ref a), (.ref a6)])) rfl rfl (hb hby dG1_56)
  have F9 := Fld.same W9 f7
  have N9 := Fr.snoc X9 N5 ha
  have Z9 : n0 ≤ h9.size := by rw [Wr.size W9]; exact Z6
  have K9 := Keep.wr K6 W9 (Or.inl (List.mem_of_getElem? (i := 0) rfl))
  refine Go.st (S' := T9.setTop (mkF m 59 #[.val (.ref a), .val (.int (1 : Int32)), .val (.int (0 : Int32)), .unset] [(.ref a6)])) (fun t kt => st9 t kt) ?_
  have f10 := (Exa.wr W9 f8)
  have f11 := (Fld.other W9 (F_m.ext E6) (Or.inr (slot_ne (Or.inl (hw _ (List.mem_of_getElem? (i := 51) rfl))) (Or.inl (hw _ (List.mem_of_getElem? (i := 54) rfl))) (by decide) (t := .int) (t' := (.array (.object "java/lang/Object"))) (by decide) (by decide))))
  have f12 := (Fld.other W9 (F_s.ext E6) (Or.inr (slot_ne (Or.inl (hw _ (List.mem_of_getElem? (i := 67) rfl))) (Or.inl (hw _ (List.mem_of_getElem? (i := 54) rfl))) (by decide) (t := .int) (t' := (.array (.object "java/lang/Object"))) (by decide) (by decide))))
  have f13 := (V6.other W9 (Ne.symm (Nat.ne_of_lt (by rw [g6]; exact E_a.lt))))
  exact ret_a X9 hx hlk hret rfl rfl (hb hby dG1_59) (by decide) (by decide) (by rw [e9]; exact ⟨_, _, rfl, N9, K9, sz_a6, (Nat.le_trans Z0 (Nat.le_of_eq g6.symm)), f10, f11, F9, f12, f13, O6⟩)
theorem dG0_0 : decode jdk_38_method_7_code 0 = .ok (.aload_n 0, 1) := by decide +kernel
theorem dG0_1 : decode jdk_38_method_7_code 1 = .ok (.aload_n 0, 1) := by decide +kernel
theorem dG0_2 : decode jdk_38_method_7_code 2 = .ok (.getfield 48, 3) := by decide +kernel
theorem dG0_5 : decode jdk_38_method_7_code 5 = .ok (.iconst 1, 1) := by decide +kernel
theorem dG0_6 : decode jdk_38_method_7_code 6 = .ok (.iadd, 1) := by decide +kernel
theorem dG0_7 : decode jdk_38_method_7_code 7 = .ok (.invokevirtual 69, 3) := by decide +kernel
theorem dG0_10 : decode jdk_38_method_7_code 10 = .ok (.areturn, 1) := by decide +kernel
theorem pd__I__Ljava_lang_Object_ : parseMethodDescriptor "(I)[Ljava/lang/Object;" = some ⟨[.int], some (.array (.object "java/lang/Object"))⟩ := by decide +kernel
theorem ef_rmG0 (m : MethodId) (a : Addr) : entryFrame m #[(.ref a)] 1 = mkF m 0 #[.val (.ref a)] [] := by first | exact own_entry rfl | (simp [entryFrame, mkF, argsToLocals, Value.category]; done) | rfl
set_option maxRecDepth 65536 in
set_option maxHeartbeats 40000000 in
theorem rmG0 (l : Launch) (Z : State) (a0 : Array Value) (hw : ∀ d ∈ tables_1, d.before a0 Z = true) (a aD : Addr) (kD : ClassId) (mc : Int32) (h0 : Heap) (n0 : Nat) (Z0 : n0 ≤ h0.size) (E_a : Exa Z h0 a "java/util/ArrayList") (ha : n0 ≤ a) (F_m : Fld Z h0 a "java/util/AbstractList" "modCount" "I" (.int mc)) (F_e : Fld Z h0 a "java/util/ArrayList" "elementData" "[Ljava/lang/Object;" (.ref aD)) (F_s : Fld Z h0 a "java/util/ArrayList" "size" "I" (.int (0 : Int32))) (S_D : Sta Z h0 "java/util/ArrayList" "DEFAULTCAPACITY_EMPTY_ELEMENTDATA" "[Ljava/lang/Object;" (.ref aD)) (V_D : Arv Z h0 aD kD (.object "java/lang/Object") (0 : Int32) [] .null) (hD : aD ≠ a) :
    Pays l (⟨"java/util/ArrayList", "grow", "()[Ljava/lang/Object;"⟩ : MethodName) jdk_38_method_7_code 1 (some (.array (.object "java/lang/Object"))) ({ frames := 2, cells := 1, slots := 10, locals := 29 } : Room) Z #[(.ref a)] h0 (fun v h L => ∃ e k, v = some (.ref e) ∧ Fr n0 L ∧ Keep h0 h [a] ∧ h0.size ≤ e ∧ n0 ≤ e ∧ Exa Z h a "java/util/ArrayList" ∧ Fld Z h a "java/util/AbstractList" "modCount" "I" (.int mc) ∧ Fld Z h a "java/util/ArrayList" "elementData" "[Ljava/lang/Object;" (.ref e) ∧ Fld Z h a "java/util/ArrayList" "size" "I" (.int (0 : Int32)) ∧ Arv Z h e k (.object "java/lang/Object") (10 : Int32) [.null, .null, .null, .null, .null, .null, .null, .null, .null, .null] .null ∧ Ovr Z k "java/lang/Object") := by
  refine Pays.of (plainFor_of_name pn_java_util_ArrayList) ?_
  intro pP eE sS m below methM cC T hx hby hml hret hlk hZ hown hnm eT X
  replace hown : sS.vm.findClass "java/util/ArrayList" = some m.cls := hown
  have N0 := Fr.nil n0
  have K0 := Keep.refl h0 [a]
  refine Go.cast (ef_rmG0 m a) ?_
  refine Go.st (S' := T.setTop (mkF m 1 #[.val (.ref a)] [(.ref a)])) (fun t kt => XS.aloadN X.here hx rfl (hb hby dG0_0) rfl rfl kt) ?_
  refine Go.st (S' := T.setTop (mkF m 2 #[.val (.ref a)] [(.ref a), (.ref a)])) (fun t kt => XS.aloadN X.here hx rfl (hb hby dG0_1) rfl rfl kt) ?_
  obtain ⟨T1, X1, e1, st1⟩ := getF X hx hZ hown (host := "") (Or.inl (hw _ (List.mem_of_getElem? (i := 66) rfl))) Via.refl eT F_s (g := (mkF m 2 #[.val (.ref a)] [(.ref a), (.ref a)])) rfl rfl (hb hby dG0_2)
  refine Go.st (S' := T1.setTop (mkF m 5 #[.val (.ref a)] [(.int (0 : Int32)), (.ref a)])) (fun t kt => st1 t kt) ?_
  refine Go.st (S' := T1.setTop (mkF m 6 #[.val (.ref a)] [(.int (1 : Int32)), (.int (0 : Int32)), (.ref a)])) (fun t kt => XS.iconst X1.here hx rfl (hb hby dG0_5) kt) ?_
  refine Go.st (S' := T1.setTop (mkF m 7 #[.val (.ref a)] [(.int (1 : Int32)), (.ref a)])) (fun t kt => XS.iadd X1.here hx rfl (hb hby dG0_6) rfl kt) ?_
  show Go pP eE below _ (T1.setTop (mkF m 7 #[.val (.ref a)] [(.int (1 : Int32)), (.ref a)]))
  refine Go.priv X1 hx hZ hown (hw _ (List.mem_of_getElem? (i := 78) rfl)) (hw _ (List.mem_of_getElem? (i := 79) rfl)) (hw _ (List.mem_of_getElem? (i := 81) rfl)) (hw _ (List.mem_of_getElem? (i := 80) rfl)) (hw _ (List.mem_of_getElem? (i := 82) rfl)) (hw _ (List.mem_of_getElem? (i := 33) rfl)) (by decide) (b := a) (argsL := [(.int (1 : Int32))]) (rest := []) (rmG1 l Z a0 hw a aD kD mc h0 n0 Z0 E_a ha F_m F_e F_s S_D V_D hD) e1 E_a rfl (by rw [hml]; rfl) pd__I__Ljava_lang_Object_ rfl (hb hby dG0_7) 0 (Nat.le_refl _) (by decide) (by decide) (by decide) (by decide) ?_
  intro v2 T2 L2 X2 hQ2
  obtain ⟨e2, k2, hv2, N2', K2', y2_0, u2_0, f2_0, f2_1, f2_2, f2_3, f2_4, f2_5⟩ := hQ2
  subst hv2
  have N2 := Fr.app N0 N2'
  have Z2 : n0 ≤ T2.heap.size := Nat.le_trans Z0 K2'.1
  have eh2 : T2.heap = T2.heap := rfl
  have sz_e2 : h0.size ≤ e2 := Nat.le_trans K0.1 y2_0
  have K2 := Keep.trans K0 K2' (allS (Or.inl (List.mem_of_getElem? (i := 0) rfl)) all0)
  show Go pP eE below _ (T2.setTop (mkF m 10 #[.val (.ref a)] [(.ref e2)]))
  exact ret_a X2 hx hlk hret rfl rfl (hb hby dG0_10) (by decide) (by decide) (by rw [eh2]; exact ⟨_, _, rfl, N2, K2, sz_e2, u2_0, f2_0, f2_1, f2_2, f2_3, f2_4, f2_5⟩)
theorem dD0_0 : decode jdk_38_method_24_code 0 = .ok (.iload_n 3, 1) := by decide +kernel
theorem dD0_1 : decode jdk_38_method_24_code 1 = .ok (.aload_n 2, 1) := by decide +kernel
theorem dD0_2 : decode jdk_38_method_24_code 2 = .ok (.arraylength, 1) := by decide +kernel
theorem dD0_3 : decode jdk_38_method_24_code 3 = .ok (.if_icmp .ne 8, 3) := by decide +kernel
theorem dD0_6 : decode jdk_38_method_24_code 6 = .ok (.aload_n 0, 1) := by decide +kernel
theorem dD0_7 : decode jdk_38_method_24_code 7 = .ok (.invokevirtual 129, 3) := by decide +kernel
theorem dD0_10 : decode jdk_38_method_24_code 10 = .ok (.astore_n 2, 1) := by decide +kernel
theorem dD0_11 : decode jdk_38_method_24_code 11 = .ok (.aload_n 2, 1) := by decide +kernel
theorem dD0_12 : decode jdk_38_method_24_code 12 = .ok (.iload_n 3, 1) := by decide +kernel
theorem dD0_13 : decode jdk_38_method_24_code 13 = .ok (.aload_n 1, 1) := by decide +kernel
theorem dD0_14 : decode jdk_38_method_24_code 14 = .ok (.aastore, 1) := by decide +kernel
theorem dD0_15 : decode jdk_38_method_24_code 15 = .ok (.aload_n 0, 1) := by decide +kernel
theorem dD0_16 : decode jdk_38_method_24_code 16 = .ok (.iload_n 3, 1) := by decide +kernel
theorem dD0_17 : decode jdk_38_method_24_code 17 = .ok (.iconst 1, 1) := by decide +kernel
theorem dD0_18 : decode jdk_38_method_24_code 18 = .ok (.iadd, 1) := by decide +kernel
theorem dD0_19 : decode jdk_38_method_24_code 19 = .ok (.putfield 48, 3) := by decide +kernel
theorem dD0_22 : decode jdk_38_method_24_code 22 = .ok (.return_, 1) := by decide +kernel
theorem pd____Ljava_lang_Object_ : parseMethodDescriptor "()[Ljava/lang/Object;" = some ⟨[], some (.array (.object "java/lang/Object"))⟩ := by decide +kernel
theorem ef_rmD0 (m : MethodId) (a : Addr) (b : Addr) (aD : Addr) : entryFrame m #[(.ref a), (.ref b), (.ref aD), (.int (0 : Int32))] 4 = mkF m 0 #[.val (.ref a), .val (.ref b), .val (.ref aD), .val (.int (0 : Int32))] [] := by first | exact own_entry rfl | (simp [entryFrame, mkF, argsToLocals, Value.category]; done) | rfl
set_option maxRecDepth 65536 in
set_option maxHeartbeats 40000000 in
theorem rmD0 (l : Launch) (Z : State) (a0 : Array Value) (hw : ∀ d ∈ tables_1, d.before a0 Z = true) (a aD b : Addr) (kD : ClassId) (mc : Int32) (h0 : Heap) (n0 : Nat) (Z0 : n0 ≤ h0.size) (E_a : Exa Z h0 a "java/util/ArrayList") (ha : n0 ≤ a) (F_m : Fld Z h0 a "java/util/AbstractList" "modCount" "I" (.int mc)) (F_e : Fld Z h0 a "java/util/ArrayList" "elementData" "[Ljava/lang/Object;" (.ref aD)) (F_s : Fld Z h0 a "java/util/ArrayList" "size" "I" (.int (0 : Int32))) (S_D : Sta Z h0 "java/util/ArrayList" "DEFAULTCAPACITY_EMPTY_ELEMENTDATA" "[Ljava/lang/Object;" (.ref aD)) (V_D : Arv Z h0 aD kD (.object "java/lang/Object") (0 : Int32) [] .null) (hD : aD ≠ a) (E_b : Exa Z h0 b "java/lang/String") :
    Pays l (⟨"java/util/ArrayList", "add", "(Ljava/lang/Object;[Ljava/lang/Object;I)V"⟩ : MethodName) jdk_38_method_24_code 4 none ({ frames := 3, cells := 1, slots := 10, locals := 41 } : Room) Z #[(.ref a), (.ref b), (.ref aD), (.int (0 : Int32))] h0 (fun v h L => ∃ e k, v = none ∧ Fr n0 L ∧ Keep h0 h [a] ∧ h0.size ≤ e ∧ n0 ≤ e ∧ Exa Z h a "java/util/ArrayList" ∧ Fld Z h a "java/util/AbstractList" "modCount" "I" (.int mc) ∧ Fld Z h a "java/util/ArrayList" "elementData" "[Ljava/lang/Object;" (.ref e) ∧ Fld Z h a "java/util/ArrayList" "size" "I" (.int (1 : Int32)) ∧ Arv Z h e k (.object "java/lang/Object") (10 : Int32) [(.ref b), .null, .null, .null, .null, .null, .null, .null, .null, .null] .null ∧ Ovr Z k "java/lang/Object") := by
  refine Pays.of (plainFor_of_name pn_java_util_ArrayList) ?_
  intro pP eE sS m below methM cC T hx hby hml hret hlk hZ hown hnm eT X
  replace hown : sS.vm.findClass "java/util/ArrayList" = some m.cls := hown
  have N0 := Fr.nil n0
  have K0 := Keep.refl h0 [a]
  refine Go.cast (ef_rmD0 m a b aD) ?_
  refine Go.st (S' := T.setTop (mkF m 1 #[.val (.ref a), .val (.ref b), .val (.ref aD), .val (.int (0 : Int32))] [(.int (0 : Int32))])) (fun t kt => XS.iloadN X.here hx rfl (hb hby dD0_0) rfl kt) ?_
  refine Go.st (S' := T.setTop (mkF m 2 #[.val (.ref a), .val (.ref b), .val (.ref aD), .val (.int (0 : Int32))] [(.ref aD), (.int (0 : Int32))])) (fun t kt => XS.aloadN X.here hx rfl (hb hby dD0_1) rfl rfl kt) ?_
  obtain ⟨cl1, Ar1, q1, S1, M1, H1, G1⟩ := id V_D
  refine Go.st (S' := T.setTop (mkF m 3 #[.val (.ref a), .val (.ref b), .val (.ref aD), .val (.int (0 : Int32))] [(.int (0 : Int32)), (.int (0 : Int32))])) (fun t kt => own_alen X hx hZ eT Ar1 (len_of S1 M1) rfl (hb hby dD0_2) t kt) ?_
  refine Go.st (S' := T.setTop (mkF m 6 #[.val (.ref a), .val (.ref b), .val (.ref aD), .val (.int (0 : Int32))] [])) (fun t kt => XS.icmpNo X.here hx rfl (hb hby dD0_3) rfl (XT.ii_ne_f (by decide)) kt) ?_
  refine Go.st (S' := T.setTop (mkF m 7 #[.val (.ref a), .val (.ref b), .val (.ref aD), .val (.int (0 : Int32))] [(.ref a)])) (fun t kt => XS.aloadN X.here hx rfl (hb hby dD0_6) rfl rfl kt) ?_
  refine Go.priv X hx hZ hown (hw _ (List.mem_of_getElem? (i := 73) rfl)) (hw _ (List.mem_of_getElem? (i := 74) rfl)) (hw _ (List.mem_of_getElem? (i := 76) rfl)) (hw _ (List.mem_of_getElem? (i := 75) rfl)) (hw _ (List.mem_of_getElem? (i := 77) rfl)) (hw _ (List.mem_of_getElem? (i := 33) rfl)) (by decide) (b := a) (argsL := []) (rest := []) (rmG0 l Z a0 hw a aD kD mc h0 n0 Z0 E_a ha F_m F_e F_s S_D V_D hD) eT E_a rfl (by rw [hml]; rfl) pd____Ljava_lang_Object_ rfl (hb hby dD0_7) 0 (Nat.le_refl _) (by decide) (by decide) (by decide) (by decide) ?_
  intro v2 T2 L2 X2 hQ2
  obtain ⟨e2, k2, hv2, N2', K2', y2_0, u2_0, f2_0, f2_1, f2_2, f2_3, f2_4, f2_5⟩ := hQ2
  subst hv2
  have N2 := Fr.app N0 N2'
  have Z2 : n0 ≤ T2.heap.size := Nat.le_trans Z0 K2'.1
  have eh2 : T2.heap = T2.heap := rfl
  have sz_e2 : h0.size ≤ e2 := Nat.le_trans K0.1 y2_0
  have K2 := Keep.trans K0 K2' (allS (Or.inl (List.mem_of_getElem? (i := 0) rfl)) all0)
  show Go pP eE below _ (T2.setTop (mkF m 10 #[.val (.ref a), .val (.ref b), .val (.ref aD), .val (.int (0 : Int32))] [(.ref e2)]))
  refine Go.st (S' := T2.setTop (mkF m 11 #[.val (.ref a), .val (.ref b), .val (.ref e2), .val (.int (0 : Int32))] [])) (fun t kt => XS.astoreN X2.here hx rfl (hb hby dD0_10) rfl rfl rfl kt) ?_
  refine Go.st (S' := T2.setTop (mkF m 12 #[.val (.ref a), .val (.ref b), .val (.ref e2), .val (.int (0 : Int32))] [(.ref e2)])) (fun t kt => XS.aloadN X2.here hx rfl (hb hby dD0_11) rfl rfl kt) ?_
  refine Go.st (S' := T2.setTop (mkF m 13 #[.val (.ref a), .val (.ref b), .val (.ref e2), .val (.int (0 : Int32))] [(.int (0 : Int32)), (.ref e2)])) (fun t kt => XS.iloadN X2.here hx rfl (hb hby dD0_12) rfl kt) ?_
  refine Go.st (S' := T2.setTop (mkF m 14 #[.val (.ref a), .val (.ref b), .val (.ref e2), .val (.int (0 : Int32))] [(.ref b), (.int (0 : Int32)), (.ref e2)])) (fun t kt => XS.aloadN X2.here hx rfl (hb hby dD0_13) rfl rfl kt) ?_
  obtain ⟨cl3, Ar3, q3, S3, M3, H3, G3⟩ := id f2_4
  have f4 := (E_b.keep K2')
  obtain ⟨T3, h3, X3, e3, W3, st3⟩ := stR X2 hx hZ eh2 Ar3 (j := (0 : Int32)) (inb_of S3 ⟨by decide, by decide⟩) rfl (Sto.ofV Ar3 q3 f2_5 (Ins.of_exa f4 (hw _ (List.mem_of_getElem? (i := 89) rfl)))) (g := (mkF m 14 #[.val (.ref a), .val (.ref b), .val (.ref e2), .val (.int (0 : Int32))] [(.ref b), (.int (0 : Int32)), (.ref e2)])) rfl rfl (hb hby dD0_14)
  have V3 : Arv Z h3 e2 k2 (.object "java/lang/Object") (10 : Int32) [(.ref b), .null, .null, .null, .null, .null, .null, .null, .null, .null] .null := Arv.set Ar3 q3 S3 M3 H3 G3 rfl W3 0 rfl (Nat.le_of_ble_eq_true rfl)
  have N3 := Fr.snoc X3 N2 u2_0
  have Z3 : n0 ≤ h3.size := by rw [Wr.size W3]; exact Z2
  have K3 := Keep.wr K2 W3 (Or.inr sz_e2)
  refine Go.st (S' := T3.setTop (mkF m 15 #[.val (.ref a), .val (.ref b), .val (.ref e2), .val (.int (0 : Int32))] [])) (fun t kt => st3 t kt) ?_
  refine Go.st (S' := T3.setTop (mkF m 16 #[.val (.ref a), .val (.ref b), .val (.ref e2), .val (.int (0 : Int32))] [(.ref a)])) (fun t kt => XS.aloadN X3.here hx rfl (hb hby dD0_15) rfl rfl kt) ?_
  refine Go.st (S' := T3.setTop (mkF m 17 #[.val (.ref a), .val (.ref b), .val (.ref e2), .val (.int (0 : Int32))] [(.int (0 : Int32)), (.ref a)])) (fun t kt => XS.iloadN X3.here hx rfl (hb hby dD0_16) rfl kt) ?_
  refine Go.st (S' := T3.setTop (mkF m 18 #[.val (.ref a), .val (.ref b), .val (.ref e2), .val (.int (0 : Int32))] [(.int (1 : Int32)), (.int (0 : Int32)), (.ref a)])) (fun t kt => XS.iconst X3.here hx rfl (hb hby dD0_17) kt) ?_
  refine Go.st (S' := T3.setTop (mkF m 19 #[.val (.ref a), .val (.ref b), .val (.ref e2), .val (.int (0 : Int32))] [(.int (1 : Int32)), (.ref a)])) (fun t kt => XS.iadd X3.here hx rfl (hb hby dD0_18) rfl kt) ?_
  show Go pP eE below _ (T3.setTop (mkF m 19 #[.val (.ref a), .val (.ref b), .val (.ref e2), .val (.int (0 : Int32))] [(.int (1 : Int32)), (.ref a)]))
  have f5 := (Fld.other W3 f2_3 (Or.inl (Nat.ne_of_lt (Nat.lt_of_lt_of_le E_a.lt y2_0))))
  have f6 := (Exa.wr W3 f2_0)
  obtain ⟨T7, h7, X7, e7, W7, st7⟩ := putF X3 hx hZ hown (host := "") (Or.inl (hw _ (List.mem_of_getElem? (i := 66) rfl))) Via.refl e3 f5 f6 (Or.inl (hw _ (List.mem_of_getElem? (i := 67) rfl))) (hw _ (List.mem_of_getElem? (i := 32) rfl)) (ty := .int) (by decide) rfl rfl (g := (mkF m 19 #[.val (.ref a), .val (.ref b), .val (.ref e2), .val (.int (0 : Int32))] [(.int (1 : Int32)), (.ref a)])) rfl rfl (hb hby dD0_19)
  have F7 := Fld.same W7 f5
  have N7 := Fr.snoc X7 N3 ha
  have Z7 : n0 ≤ h7.size := by rw [Wr.size W7]; exact Z3
  have K7 := Keep.wr K3 W7 (Or.inl (List.mem_of_getElem? (i := 0) rfl))
  refine Go.st (S' := T7.setTop (mkF m 22 #[.val (.ref a), .val (.ref b), .val (.ref e2), .val (.int (0 : Int32))] [])) (fun t kt => st7 t kt) ?_
  have f8 := (Exa.wr W7 f6)
  have f9 := (Fld.other W7 (Fld.other W3 f2_1 (Or.inl (Nat.ne_of_lt (Nat.lt_of_lt_of_le E_a.lt y2_0)))) (Or.inr (slot_ne (Or.inl (hw _ (List.mem_of_getElem? (i := 51) rfl))) (Or.inl (hw _ (List.mem_of_getElem? (i := 67) rfl))) (by decide) (t := .int) (t' := .int) (by decide) (by decide))))
  have f10 := (Fld.other W7 (Fld.other W3 f2_2 (Or.inl (Nat.ne_of_lt (Nat.lt_of_lt_of_le E_a.lt y2_0)))) (Or.inr (slot_ne (Or.inl (hw _ (List.mem_of_getElem? (i := 54) rfl))) (Or.inl (hw _ (List.mem_of_getElem? (i := 67) rfl))) (by decide) (t := (.array (.object "java/lang/Object"))) (t' := .int) (by decide) (by decide))))
  have f11 := (V3.other W7 (Ne.symm (Nat.ne_of_lt (Nat.lt_of_lt_of_le E_a.lt y2_0))))
  exact ret_v X7 hx hlk hret (hb hby dD0_22) (by decide) (by decide) (by rw [e7]; exact ⟨_, _, rfl, N7, K7, sz_e2, u2_0, f8, f9, f10, F7, f11, f2_5⟩)
theorem dA0_0 : decode jdk_38_method_25_code 0 = .ok (.aload_n 0, 1) := by decide +kernel
theorem dA0_1 : decode jdk_38_method_25_code 1 = .ok (.dup, 1) := by decide +kernel
theorem dA0_2 : decode jdk_38_method_25_code 2 = .ok (.getfield 63, 3) := by decide +kernel
theorem dA0_5 : decode jdk_38_method_25_code 5 = .ok (.iconst 1, 1) := by decide +kernel
theorem dA0_6 : decode jdk_38_method_25_code 6 = .ok (.iadd, 1) := by decide +kernel
theorem dA0_7 : decode jdk_38_method_25_code 7 = .ok (.putfield 63, 3) := by decide +kernel
theorem dA0_10 : decode jdk_38_method_25_code 10 = .ok (.aload_n 0, 1) := by decide +kernel
theorem dA0_11 : decode jdk_38_method_25_code 11 = .ok (.aload_n 1, 1) := by decide +kernel
theorem dA0_12 : decode jdk_38_method_25_code 12 = .ok (.aload_n 0, 1) := by decide +kernel
theorem dA0_13 : decode jdk_38_method_25_code 13 = .ok (.getfield 9, 3) := by decide +kernel
theorem dA0_16 : decode jdk_38_method_25_code 16 = .ok (.aload_n 0, 1) := by decide +kernel
theorem dA0_17 : decode jdk_38_method_25_code 17 = .ok (.getfield 48, 3) := by decide +kernel
theorem dA0_20 : decode jdk_38_method_25_code 20 = .ok (.invokevirtual 131, 3) := by decide +kernel
theorem dA0_23 : decode jdk_38_method_25_code 23 = .ok (.iconst 1, 1) := by decide +kernel
theorem dA0_24 : decode jdk_38_method_25_code 24 = .ok (.ireturn, 1) := by decide +kernel
theorem pd__Ljava_lang_Object__Ljava_lang_Object_I_V : parseMethodDescriptor "(Ljava/lang/Object;[Ljava/lang/Object;I)V" = some ⟨[(.object "java/lang/Object"), (.array (.object "java/lang/Object")), .int], none⟩ := by decide +kernel
theorem ef_rmA0 (m : MethodId) (a : Addr) (b : Addr) : entryFrame m #[(.ref a), (.ref b)] 2 = mkF m 0 #[.val (.ref a), .val (.ref b)] [] := by first | exact own_entry rfl | (simp [entryFrame, mkF, argsToLocals, Value.category]; done) | rfl
set_option maxRecDepth 65536 in
set_option maxHeartbeats 40000000 in
theorem rmA0 (l : Launch) (Z : State) (a0 : Array Value) (hw : ∀ d ∈ tables_1, d.before a0 Z = true) (a aD b : Addr) (kD : ClassId) (mc : Int32) (h0 : Heap) (n0 : Nat) (Z0 : n0 ≤ h0.size) (E_a : Exa Z h0 a "java/util/ArrayList") (ha : n0 ≤ a) (F_m : Fld Z h0 a "java/util/AbstractList" "modCount" "I" (.int mc)) (F_e : Fld Z h0 a "java/util/ArrayList" "elementData" "[Ljava/lang/Object;" (.ref aD)) (F_s : Fld Z h0 a "java/util/ArrayList" "size" "I" (.int (0 : Int32))) (S_D : Sta Z h0 "java/util/ArrayList" "DEFAULTCAPACITY_EMPTY_ELEMENTDATA" "[Ljava/lang/Object;" (.ref aD)) (V_D : Arv Z h0 aD kD (.object "java/lang/Object") (0 : Int32) [] .null) (hD : aD ≠ a) (E_b : Exa Z h0 b "java/lang/String") :
    Pays l (⟨"java/util/ArrayList", "add", "(Ljava/lang/Object;)Z"⟩ : MethodName) jdk_38_method_25_code 2 (some .boolean) ({ frames := 4, cells := 1, slots := 10, locals := 56 } : Room) Z #[(.ref a), (.ref b)] h0 (fun v h L => ∃ e k, v = some (.int 1) ∧ Fr n0 L ∧ Keep h0 h [a] ∧ h0.size ≤ e ∧ n0 ≤ e ∧ Exa Z h a "java/util/ArrayList" ∧ Fld Z h a "java/util/AbstractList" "modCount" "I" (.int (mc + (1 : Int32))) ∧ Fld Z h a "java/util/ArrayList" "elementData" "[Ljava/lang/Object;" (.ref e) ∧ Fld Z h a "java/util/ArrayList" "size" "I" (.int (1 : Int32)) ∧ Arv Z h e k (.object "java/lang/Object") (10 : Int32) [(.ref b), .null, .null, .null, .null, .null, .null, .null, .null, .null] .null ∧ Ovr Z k "java/lang/Object") := by
  refine Pays.of (plainFor_of_name pn_java_util_ArrayList) ?_
  intro pP eE sS m below methM cC T hx hby hml hret hlk hZ hown hnm eT X
  replace hown : sS.vm.findClass "java/util/ArrayList" = some m.cls := hown
  have N0 := Fr.nil n0
  have K0 := Keep.refl h0 [a]
  refine Go.cast (ef_rmA0 m a b) ?_
  refine Go.st (S' := T.setTop (mkF m 1 #[.val (.ref a), .val (.ref b)] [(.ref a)])) (fun t kt => XS.aloadN X.here hx rfl (hb hby dA0_0) rfl rfl kt) ?_
  refine Go.st (S' := T.setTop (mkF m 2 #[.val (.ref a), .val (.ref b)] [(.ref a), (.ref a)])) (fun t kt => XS.dup X.here hx rfl (hb hby dA0_1) rfl rfl kt) ?_
  obtain ⟨T1, X1, e1, st1⟩ := getF X hx hZ hown (host := "") (Or.inl (hw _ (List.mem_of_getElem? (i := 64) rfl))) (Via.of (hw _ (List.mem_of_getElem? (i := 65) rfl))) eT F_m (g := (mkF m 2 #[.val (.ref a), .val (.ref b)] [(.ref a), (.ref a)])) rfl rfl (hb hby dA0_2)
  refine Go.st (S' := T1.setTop (mkF m 5 #[.val (.ref a), .val (.ref b)] [(.int mc), (.ref a)])) (fun t kt => st1 t kt) ?_
  refine Go.st (S' := T1.setTop (mkF m 6 #[.val (.ref a), .val (.ref b)] [(.int (1 : Int32)), (.int mc), (.ref a)])) (fun t kt => XS.iconst X1.here hx rfl (hb hby dA0_5) kt) ?_
  refine Go.st (S' := T1.setTop (mkF m 7 #[.val (.ref a), .val (.ref b)] [(.int (mc + (1 : Int32))), (.ref a)])) (fun t kt => XS.iadd X1.here hx rfl (hb hby dA0_6) rfl kt) ?_
  obtain ⟨T2, h2, X2, e2, W2, st2⟩ := putF X1 hx hZ hown (host := "") (Or.inl (hw _ (List.mem_of_getElem? (i := 64) rfl))) (Via.of (hw _ (List.mem_of_getElem? (i := 65) rfl))) e1 F_m E_a (Or.inl (hw _ (List.mem_of_getElem? (i := 51) rfl))) (hw _ (List.mem_of_getElem? (i := 32) rfl)) (ty := .int) (by decide) rfl rfl (g := (mkF m 7 #[.val (.ref a), .val (.ref b)] [(.int (mc + (1 : Int32))), (.ref a)])) rfl rfl (hb hby dA0_7)
  have F2 := Fld.same W2 F_m
  have N2 := Fr.snoc X2 N0 ha
  have Z2 : n0 ≤ h2.size := by rw [Wr.size W2]; exact Z0
  have K2 := Keep.wr K0 W2 (Or.inl (List.mem_of_getElem? (i := 0) rfl))
  refine Go.st (S' := T2.setTop (mkF m 10 #[.val (.ref a), .val (.ref b)] [])) (fun t kt => st2 t kt) ?_
  refine Go.st (S' := T2.setTop (mkF m 11 #[.val (.ref a), .val (.ref b)] [(.ref a)])) (fun t kt => XS.aloadN X2.here hx rfl (hb hby dA0_10) rfl rfl kt) ?_
  refine Go.st (S' := T2.setTop (mkF m 12 #[.val (.ref a), .val (.ref b)] [(.ref b), (.ref a)])) (fun t kt => XS.aloadN X2.here hx rfl (hb hby dA0_11) rfl rfl kt) ?_
  refine Go.st (S' := T2.setTop (mkF m 13 #[.val (.ref a), .val (.ref b)] [(.ref a), (.ref b), (.ref a)])) (fun t kt => XS.aloadN X2.here hx rfl (hb hby dA0_12) rfl rfl kt) ?_
  have f3 := (Fld.other W2 F_e (Or.inr (slot_ne (Or.inl (hw _ (List.mem_of_getElem? (i := 54) rfl))) (Or.inl (hw _ (List.mem_of_getElem? (i := 51) rfl))) (by decide) (t := (.array (.object "java/lang/Object"))) (t' := .int) (by decide) (by decide))))
  obtain ⟨T4, X4, e4, st4⟩ := getF X2 hx hZ hown (host := "") (Or.inl (hw _ (List.mem_of_getElem? (i := 53) rfl))) Via.refl e2 f3 (g := (mkF m 13 #[.val (.ref a), .val (.ref b)] [(.ref a), (.ref b), (.ref a)])) rfl rfl (hb hby dA0_13)
  refine Go.st (S' := T4.setTop (mkF m 16 #[.val (.ref a), .val (.ref b)] [(.ref aD), (.ref b), (.ref a)])) (fun t kt => st4 t kt) ?_
  refine Go.st (S' := T4.setTop (mkF m 17 #[.val (.ref a), .val (.ref b)] [(.ref a), (.ref aD), (.ref b), (.ref a)])) (fun t kt => XS.aloadN X4.here hx rfl (hb hby dA0_16) rfl rfl kt) ?_
  have f5 := (Fld.other W2 F_s (Or.inr (slot_ne (Or.inl (hw _ (List.mem_of_getElem? (i := 67) rfl))) (Or.inl (hw _ (List.mem_of_getElem? (i := 51) rfl))) (by decide) (t := .int) (t' := .int) (by decide) (by decide))))
  obtain ⟨T6, X6, e6, st6⟩ := getF X4 hx hZ hown (host := "") (Or.inl (hw _ (List.mem_of_getElem? (i := 66) rfl))) Via.refl e4 f5 (g := (mkF m 17 #[.val (.ref a), .val (.ref b)] [(.ref a), (.ref aD), (.ref b), (.ref a)])) rfl rfl (hb hby dA0_17)
  refine Go.st (S' := T6.setTop (mkF m 20 #[.val (.ref a), .val (.ref b)] [(.int (0 : Int32)), (.ref aD), (.ref b), (.ref a)])) (fun t kt => st6 t kt) ?_
  have f7 := (Exa.wr W2 E_a)
  have f8 := (Sta.wr W2 S_D)
  have f9 := (V_D.other W2 hD)
  have f10 := (Exa.wr W2 E_b)
  refine Go.priv X6 hx hZ hown (hw _ (List.mem_of_getElem? (i := 68) rfl)) (hw _ (List.mem_of_getElem? (i := 69) rfl)) (hw _ (List.mem_of_getElem? (i := 71) rfl)) (hw _ (List.mem_of_getElem? (i := 70) rfl)) (hw _ (List.mem_of_getElem? (i := 72) rfl)) (hw _ (List.mem_of_getElem? (i := 33) rfl)) (by decide) (b := a) (argsL := [(.ref b), (.ref aD), (.int (0 : Int32))]) (rest := []) (rmD0 l Z a0 hw a aD b kD (mc + (1 : Int32)) h2 n0 Z2 f7 ha F2 f3 f5 f8 f9 hD f10) e6 f7 rfl (by rw [hml]; rfl) pd__Ljava_lang_Object__Ljava_lang_Object_I_V rfl (hb hby dA0_20) 0 (Nat.le_refl _) (by decide) (by decide) (by decide) (by decide) ?_
  intro v11 T11 L11 X11 hQ11
  obtain ⟨e11, k11, hv11, N11', K11', y11_0, u11_0, f11_0, f11_1, f11_2, f11_3, f11_4, f11_5⟩ := hQ11
  subst hv11
  have N11 := Fr.app N2 N11'
  have Z11 : n0 ≤ T11.heap.size := Nat.le_trans Z2 K11'.1
  have eh11 : T11.heap = T11.heap := rfl
  have sz_e11 : h0.size ≤ e11 := Nat.le_trans K2.1 y11_0
  have K11 := Keep.trans K2 K11' (allS (Or.inl (List.mem_of_getElem? (i := 0) rfl)) all0)
  show Go pP eE below _ (T11.setTop (mkF m 23 #[.val (.ref a), .val (.ref b)] []))
  refine Go.st (S' := T11.setTop (mkF m 24 #[.val (.ref a), .val (.ref b)] [(.int (1 : Int32))])) (fun t kt => XS.iconst X11.here hx rfl (hb hby dA0_23) kt) ?_
  exact ret_b X11 hx hlk hret (hb hby dA0_24) (by decide) (by decide) (by rw [eh11]; exact ⟨_, _, rfl, N11, K11, sz_e11, u11_0, f11_0, f11_1, f11_2, f11_3, f11_4, f11_5⟩)
theorem dRC_0 : decode jdk_30_method_1_code 0 = .ok (.aload_n 0, 1) := by decide +kernel
theorem dRC_1 : decode jdk_30_method_1_code 1 = .ok (.invokespecial 1, 3) := by decide +kernel
theorem dRC_4 : decode jdk_30_method_1_code 4 = .ok (.return_, 1) := by decide +kernel
theorem pn_java_lang_Record : plainName "java/lang/Record" = true := by first | (simp [plainName, overriddenIn]; done) | decide +kernel
theorem ef_rmRC (m : MethodId) (a : Addr) : entryFrame m #[(.ref a)] 1 = mkF m 0 #[.val (.ref a)] [] := by first | exact own_entry rfl | (simp [entryFrame, mkF, argsToLocals, Value.category]; done) | rfl
set_option maxRecDepth 65536 in
set_option maxHeartbeats 40000000 in
theorem rmRC (l : Launch) (Z : State) (a0 : Array Value) (hw : ∀ d ∈ tables_1, d.before a0 Z = true) (a : Addr) (h0 : Heap) (n0 : Nat) (Z0 : n0 ≤ h0.size) :
    Pays l (⟨"java/lang/Record", "<init>", "()V"⟩ : MethodName) jdk_30_method_1_code 1 none ({ frames := 1, cells := 0, slots := 0, locals := 12 } : Room) Z #[(.ref a)] h0 (fun v h L => v = none ∧ Fr n0 L ∧ h = h0) := by
  refine Pays.of (plainFor_of_name pn_java_lang_Record) ?_
  intro pP eE sS m below methM cC T hx hby hml hret hlk hZ hown hnm eT X
  replace hown : sS.vm.findClass "java/lang/Record" = some m.cls := hown
  have N0 := Fr.nil n0
  refine Go.cast (ef_rmRC m a) ?_
  refine Go.st (S' := T.setTop (mkF m 1 #[.val (.ref a)] [(.ref a)])) (fun t kt => XS.aloadN X.here hx rfl (hb hby dRC_0) rfl rfl kt) ?_
  obtain ⟨T1, X1, e1, st1⟩ := initO X hx hZ hown (hw _ (List.mem_of_getElem? (i := 101) rfl)) (hw _ (List.mem_of_getElem? (i := 25) rfl)) (hw _ (List.mem_of_getElem? (i := 26) rfl)) eT (g := (mkF m 1 #[.val (.ref a)] [(.ref a)])) rfl (by rw [hml]; rfl) rfl (hb hby dRC_1) (by decide) (W := 0) (by show 2 * 0 + _ ≤ _; exact Nat.le_of_eq rfl) (by decide)
  refine Go.st (S' := T1.setTop (mkF m 4 #[.val (.ref a)] [])) (fun t kt => st1 t kt) ?_
  exact ret_v X1 hx hlk hret (hb hby dRC_4) (by decide) (by decide) (⟨rfl, N0, e1⟩)
theorem d2_0 : decode prog_2_method_1_code 0 = .ok (.aload_n 0, 1) := by decide +kernel
theorem d2_1 : decode prog_2_method_1_code 1 = .ok (.invokespecial 1, 3) := by decide +kernel
theorem d2_4 : decode prog_2_method_1_code 4 = .ok (.aload_n 0, 1) := by decide +kernel
theorem d2_5 : decode prog_2_method_1_code 5 = .ok (.aload_n 1, 1) := by decide +kernel
theorem d2_6 : decode prog_2_method_1_code 6 = .ok (.putfield 7, 3) := by decide +kernel
theorem d2_9 : decode prog_2_method_1_code 9 = .ok (.aload_n 0, 1) := by decide +kernel
theorem d2_10 : decode prog_2_method_1_code 10 = .ok (.aload_n 2, 1) := by decide +kernel
theorem d2_11 : decode prog_2_method_1_code 11 = .ok (.putfield 13, 3) := by decide +kernel
theorem d2_14 : decode prog_2_method_1_code 14 = .ok (.aload_n 0, 1) := by decide +kernel
theorem d2_15 : decode prog_2_method_1_code 15 = .ok (.aload_n 3, 1) := by decide +kernel
theorem d2_16 : decode prog_2_method_1_code 16 = .ok (.putfield 16, 3) := by decide +kernel
theorem d2_19 : decode prog_2_method_1_code 19 = .ok (.aload_n 0, 1) := by decide +kernel
theorem d2_20 : decode prog_2_method_1_code 20 = .ok (.aload 4, 2) := by decide +kernel
theorem d2_22 : decode prog_2_method_1_code 22 = .ok (.putfield 19, 3) := by decide +kernel
theorem d2_25 : decode prog_2_method_1_code 25 = .ok (.aload_n 0, 1) := by decide +kernel
theorem d2_26 : decode prog_2_method_1_code 26 = .ok (.aload 5, 2) := by decide +kernel
theorem d2_28 : decode prog_2_method_1_code 28 = .ok (.putfield 22, 3) := by decide +kernel
theorem d2_31 : decode prog_2_method_1_code 31 = .ok (.aload_n 0, 1) := by decide +kernel
theorem d2_32 : decode prog_2_method_1_code 32 = .ok (.aload 6, 2) := by decide +kernel
theorem d2_34 : decode prog_2_method_1_code 34 = .ok (.putfield 25, 3) := by decide +kernel
theorem d2_37 : decode prog_2_method_1_code 37 = .ok (.aload_n 0, 1) := by decide +kernel
theorem d2_38 : decode prog_2_method_1_code 38 = .ok (.iload 7, 2) := by decide +kernel
theorem d2_40 : decode prog_2_method_1_code 40 = .ok (.putfield 28, 3) := by decide +kernel
theorem d2_43 : decode prog_2_method_1_code 43 = .ok (.aload_n 0, 1) := by decide +kernel
theorem d2_44 : decode prog_2_method_1_code 44 = .ok (.aload 8, 2) := by decide +kernel
theorem d2_46 : decode prog_2_method_1_code 46 = .ok (.putfield 32, 3) := by decide +kernel
theorem d2_49 : decode prog_2_method_1_code 49 = .ok (.aload_n 0, 1) := by decide +kernel
theorem d2_50 : decode prog_2_method_1_code 50 = .ok (.aload 9, 2) := by decide +kernel
theorem d2_52 : decode prog_2_method_1_code 52 = .ok (.putfield 35, 3) := by decide +kernel
theorem d2_55 : decode prog_2_method_1_code 55 = .ok (.aload_n 0, 1) := by decide +kernel
theorem d2_56 : decode prog_2_method_1_code 56 = .ok (.aload 10, 2) := by decide +kernel
theorem d2_58 : decode prog_2_method_1_code 58 = .ok (.putfield 39, 3) := by decide +kernel
theorem d2_61 : decode prog_2_method_1_code 61 = .ok (.aload_n 0, 1) := by decide +kernel
theorem d2_62 : decode prog_2_method_1_code 62 = .ok (.aload 11, 2) := by decide +kernel
theorem d2_64 : decode prog_2_method_1_code 64 = .ok (.putfield 42, 3) := by decide +kernel
theorem d2_67 : decode prog_2_method_1_code 67 = .ok (.aload_n 0, 1) := by decide +kernel
theorem d2_68 : decode prog_2_method_1_code 68 = .ok (.aload 12, 2) := by decide +kernel
theorem d2_70 : decode prog_2_method_1_code 70 = .ok (.putfield 46, 3) := by decide +kernel
theorem d2_73 : decode prog_2_method_1_code 73 = .ok (.return_, 1) := by decide +kernel
theorem pn_com_example_imprimatur_imprimatur_approval_ApprovalView : plainName "com/example/imprimatur/imprimatur/approval/ApprovalView" = true := by first | (simp [plainName, overriddenIn]; done) | decide +kernel
theorem ef_rm2 (m : MethodId) (a : Addr) (s1 : Addr) (wv : Int32) (u : Value) (s2 : Addr) (l1 : Addr) (l2 : Addr) (hu : u.isRef = true) : entryFrame m #[(.ref a), (.ref s1), (.ref s1), (.ref s1), (.ref s1), (.ref s1), (.ref s1), (.int wv), (.ref s1), u, (.ref s2), (.ref l1), (.ref l2)] 13 = mkF m 0 #[.val (.ref a), .val (.ref s1), .val (.ref s1), .val (.ref s1), .val (.ref s1), .val (.ref s1), .val (.ref s1), .val (.int wv), .val (.ref s1), .val u, .val (.ref s2), .val (.ref l1), .val (.ref l2)] [] := by rcases XT.refc hu with rfl | ⟨_, rfl⟩ <;> exact own_entry rfl
set_option maxRecDepth 65536 in
set_option maxHeartbeats 40000000 in
theorem rm2 (l : Launch) (Z : State) (a0 : Array Value) (hw : ∀ d ∈ tables_1, d.before a0 Z = true) (a s1 s2 l1 l2 : Addr) (wv : Int32) (u : Value) (hu : u.isRef = true) (h0 : Heap) (n0 : Nat) (Z0 : n0 ≤ h0.size) (E_a : Exa Z h0 a "com/example/imprimatur/imprimatur/approval/ApprovalView") (ha : n0 ≤ a) (F_id : Fld Z h0 a "com/example/imprimatur/imprimatur/approval/ApprovalView" "id" "Ljava/lang/String;" .null) (F_item : Fld Z h0 a "com/example/imprimatur/imprimatur/approval/ApprovalView" "item" "Ljava/lang/String;" .null) (F_type : Fld Z h0 a "com/example/imprimatur/imprimatur/approval/ApprovalView" "type" "Ljava/lang/String;" .null) (F_version : Fld Z h0 a "com/example/imprimatur/imprimatur/approval/ApprovalView" "version" "Ljava/lang/String;" .null) (F_language : Fld Z h0 a "com/example/imprimatur/imprimatur/approval/ApprovalView" "language" "Ljava/lang/String;" .null) (F_workflow : Fld Z h0 a "com/example/imprimatur/imprimatur/approval/ApprovalView" "workflow" "Ljava/lang/String;" .null) (F_workflowVersion : Fld Z h0 a "com/example/imprimatur/imprimatur/approval/ApprovalView" "workflowVersion" "I" (.int (0 : Int32))) (F_state : Fld Z h0 a "com/example/imprimatur/imprimatur/approval/ApprovalView" "state" "Ljava/lang/String;" .null) (F_outcome : Fld Z h0 a "com/example/imprimatur/imprimatur/approval/ApprovalView" "outcome" "Lcom/example/imprimatur/imprimatur/config/Outcome;" .null) (F_submittedBy : Fld Z h0 a "com/example/imprimatur/imprimatur/approval/ApprovalView" "submittedBy" "Ljava/lang/String;" .null) (F_authors : Fld Z h0 a "com/example/imprimatur/imprimatur/approval/ApprovalView" "authors" "Ljava/util/List;" .null) (F_transitions : Fld Z h0 a "com/example/imprimatur/imprimatur/approval/ApprovalView" "transitions" "Ljava/util/List;" .null) :
    Pays l (⟨"com/example/imprimatur/imprimatur/approval/ApprovalView", "<init>", "(Ljava/lang/String;Ljava/lang/String;Ljava/lang/String;Ljava/lang/String;Ljava/lang/String;Ljava/lang/String;ILjava/lang/String;Lcom/example/imprimatur/imprimatur/config/Outcome;Ljava/lang/String;Ljava/util/List;Ljava/util/List;)V"⟩ : MethodName) prog_2_method_1_code 13 none ({ frames := 2, cells := 0, slots := 0, locals := 24 } : Room) Z #[(.ref a), (.ref s1), (.ref s1), (.ref s1), (.ref s1), (.ref s1), (.ref s1), (.int wv), (.ref s1), u, (.ref s2), (.ref l1), (.ref l2)] h0 (fun v h L => v = none ∧ Fr n0 L ∧ Keep h0 h [a] ∧ Exa Z h a "com/example/imprimatur/imprimatur/approval/ApprovalView" ∧ Fld Z h a "com/example/imprimatur/imprimatur/approval/ApprovalView" "outcome" "Lcom/example/imprimatur/imprimatur/config/Outcome;" u) := by
  refine Pays.of (plainFor_of_name pn_com_example_imprimatur_imprimatur_approval_ApprovalView) ?_
  intro pP eE sS m below methM cC T hx hby hml hret hlk hZ hown hnm eT X
  replace hown : sS.vm.findClass "com/example/imprimatur/imprimatur/approval/ApprovalView" = some m.cls := hown
  have N0 := Fr.nil n0
  have K0 := Keep.refl h0 [a]
  refine Go.cast (ef_rm2 m a s1 wv u s2 l1 l2 hu) ?_
  refine Go.st (S' := T.setTop (mkF m 1 #[.val (.ref a), .val (.ref s1), .val (.ref s1), .val (.ref s1), .val (.ref s1), .val (.ref s1), .val (.ref s1), .val (.int wv), .val (.ref s1), .val u, .val (.ref s2), .val (.ref l1), .val (.ref l2)] [(.ref a)])) (fun t kt => XS.aloadN X.here hx rfl (hb hby d2_0) rfl rfl kt) ?_
  refine Go.init X hx hZ rfl hown (hw _ (List.mem_of_getElem? (i := 96) rfl)) (hw _ (List.mem_of_getElem? (i := 97) rfl)) (hw _ (List.mem_of_getElem? (i := 100) rfl)) (hw _ (List.mem_of_getElem? (i := 99) rfl)) (by decide) (b := a) (argsL := []) (rest := []) (rmRC l Z a0 hw a h0 n0 Z0) eT rfl (by rw [hml]; rfl) pd___V rfl (hb hby d2_1) 0 (Nat.le_refl _) (by decide) (by decide) (by decide) (by decide) ?_
  intro v1 T1 L1 X1 hQ1
  obtain ⟨hv1, N1', e1⟩ := hQ1
  subst hv1
  have N1 := Fr.app N0 N1'
  show Go pP eE below _ (T1.setTop (mkF m 4 #[.val (.ref a), .val (.ref s1), .val (.ref s1), .val (.ref s1), .val (.ref s1), .val (.ref s1), .val (.ref s1), .val (.int wv), .val (.ref s1), .val u, .val (.ref s2), .val (.ref l1), .val (.ref l2)] []))
  refine Go.st (S' := T1.setTop (mkF m 5 #[.val (.ref a), .val (.ref s1), .val (.ref s1), .val (.ref s1), .val (.ref s1), .val (.ref s1), .val (.ref s1), .val (.int wv), .val (.ref s1), .val u, .val (.ref s2), .val (.ref l1), .val (.ref l2)] [(.ref a)])) (fun t kt => XS.aloadN X1.here hx rfl (hb hby d2_4) rfl rfl kt) ?_
  refine Go.st (S' := T1.setTop (mkF m 6 #[.val (.ref a), .val (.ref s1), .val (.ref s1), .val (.ref s1), .val (.ref s1), .val (.ref s1), .val (.ref s1), .val (.int wv), .val (.ref s1), .val u, .val (.ref s2), .val (.ref l1), .val (.ref l2)] [(.ref s1), (.ref a)])) (fun t kt => XS.aloadN X1.here hx rfl (hb hby d2_5) rfl rfl kt) ?_
  obtain ⟨T2, h2, X2, e2, W2, st2⟩ := putF X1 hx hZ hown (host := "") (Or.inl (hw _ (List.mem_of_getElem? (i := 102) rfl))) Via.refl e1 F_id E_a (Or.inr ⟨(hw _ (List.mem_of_getElem? (i := 103) rfl)), rfl, hnm⟩) (hw _ (List.mem_of_getElem? (i := 91) rfl)) (ty := (.object "java/lang/String")) (by decide) rfl rfl (g := (mkF m 6 #[.val (.ref a), .val (.ref s1), .val (.ref s1), .val (.ref s1), .val (.ref s1), .val (.ref s1), .val (.ref s1), .val (.int wv), .val (.ref s1), .val u, .val (.ref s2), .val (.ref l1), .val (.ref l2)] [(.ref s1), (.ref a)])) rfl rfl (hb hby d2_6)
  have F2 := Fld.same W2 F_id
  have N2 := Fr.snoc X2 N1 ha
  have Z2 : n0 ≤ h2.size := by rw [Wr.size W2]; exact Z0
  have K2 := Keep.wr K0 W2 (Or.inl (List.mem_of_getElem? (i := 0) rfl))
  refine Go.st (S' := T2.setTop (mkF m 9 #[.val (.ref a), .val (.ref s1), .val (.ref s1), .val (.ref s1), .val (.ref s1), .val (.ref s1), .val (.ref s1), .val (.int wv), .val (.ref s1), .val u, .val (.ref s2), .val (.ref l1), .val (.ref l2)] [])) (fun t kt => st2 t kt) ?_
  refine Go.st (S' := T2.setTop (mkF m 10 #[.val (.ref a), .val (.ref s1), .val (.ref s1), .val (.ref s1), .val (.ref s1), .val (.ref s1), .val (.ref s1), .val (.int wv), .val (.ref s1), .val u, .val (.ref s2), .val (.ref l1), .val (.ref l2)] [(.ref a)])) (fun t kt => XS.aloadN X2.here hx rfl (hb hby d2_9) rfl rfl kt) ?_
  refine Go.st (S' := T2.setTop (mkF m 11 #[.val (.ref a), .val (.ref s1), .val (.ref s1), .val (.ref s1), .val (.ref s1), .val (.ref s1), .val (.ref s1), .val (.int wv), .val (.ref s1), .val u, .val (.ref s2), .val (.ref l1), .val (.ref l2)] [(.ref s1), (.ref a)])) (fun t kt => XS.aloadN X2.here hx rfl (hb hby d2_10) rfl rfl kt) ?_
  have f3 := (Fld.other W2 F_item (Or.inr (slot_ne (Or.inr (hw _ (List.mem_of_getElem? (i := 105) rfl))) (Or.inr (hw _ (List.mem_of_getElem? (i := 103) rfl))) (by decide) (t := (.object "java/lang/String")) (t' := (.object "java/lang/String")) (by decide) (by decide))))
  have f4 := (Exa.wr W2 E_a)
  obtain ⟨T5, h5, X5, e5, W5, st5⟩ := putF X2 hx hZ hown (host := "") (Or.inl (hw _ (List.mem_of_getElem? (i := 104) rfl))) Via.refl e2 f3 f4 (Or.inr ⟨(hw _ (List.mem_of_getElem? (i := 105) rfl)), rfl, hnm⟩) (hw _ (List.mem_of_getElem? (i := 91) rfl)) (ty := (.object "java/lang/String")) (by decide) rfl rfl (g := (mkF m 11 #[.val (.ref a), .val (.ref s1), .val (.ref s1), .val (.ref s1), .val (.ref s1), .val (.ref s1), .val (.ref s1), .val (.int wv), .val (.ref s1), .val u, .val (.ref s2), .val (.ref l1), .val (.ref l2)] [(.ref s1), (.ref a)])) rfl rfl (hb hby d2_11)
  have F5 := Fld.same W5 f3
  have N5 := Fr.snoc X5 N2 ha
  have Z5 : n0 ≤ h5.size := by rw [Wr.size W5]; exact Z2
  have K5 := Keep.wr K2 W5 (Or.inl (List.mem_of_getElem? (i := 0) rfl))
  refine Go.st (S' := T5.setTop (mkF m 14 #[.val (.ref a), .val (.ref s1), .val (.ref s1), .val (.ref s1), .val (.ref s1), .val (.ref s1), .val (.ref s1), .val (.int wv), .val (.ref s1), .val u, .val (.ref s2), .val (.ref l1), .val (.ref l2)] [])) (fun t kt => st5 t kt) ?_
  refine Go.st (S' := T5.setTop (mkF m 15 #[.val (.ref a), .val (.ref s1), .val (.ref s1), .val (.ref s1), .val (.ref s1), .val (.ref s1), .val (.ref s1), .val (.int wv), .val (.ref s1), .val u, .val (.ref s2), .val (.ref l1), .val (.ref l2)] [(.ref a)])) (fun t kt => XS.aloadN X5.here hx rfl (hb hby d2_14) rfl rfl kt) ?_
  refine Go.st (S' := T5.setTop (mkF m 16 #[.val (.ref a), .val (.ref s1), .val (.ref s1), .val (.ref s1), .val (.ref s1), .val (.ref s1), .val (.ref s1), .val (.int wv), .val (.ref s1), .val u, .val (.ref s2), .val (.ref l1), .val (.ref l2)] [(.ref s1), (.ref a)])) (fun t kt => XS.aloadN X5.here hx rfl (hb hby d2_15) rfl rfl kt) ?_
  have f6 := (Fld.other W5 (Fld.other W2 F_type (Or.inr (slot_ne (Or.inr (hw _ (List.mem_of_getElem? (i := 107) rfl))) (Or.inr (hw _ (List.mem_of_getElem? (i := 103) rfl))) (by decide) (t := (.object "java/lang/String")) (t' := (.object "java/lang/String")) (by decide) (by decide)))) (Or.inr (slot_ne (Or.inr (hw _ (List.mem_of_getElem? (i := 107) rfl))) (Or.inr (hw _ (List.mem_of_getElem? (i := 105) rfl))) (by decide) (t := (.object "java/lang/String")) (t' := (.object "java/lang/String")) (by decide) (by decide))))
  have f7 := (Exa.wr W5 f4)
  obtain ⟨T8, h8, X8, e8, W8, st8⟩ := putF X5 hx hZ hown (host := "") (Or.inl (hw _ (List.mem_of_getElem? (i := 106) rfl))) Via.refl e5 f6 f7 (Or.inr ⟨(hw _ (List.mem_of_getElem? (i := 107) rfl)), rfl, hnm⟩) (hw _ (List.mem_of_getElem? (i := 91) rfl)) (ty := (.object "java/lang/String")) (by decide) rfl rfl (g := (mkF m 16 #[.val (.ref a), .val (.ref s1), .val (.ref s1), .val (.ref s1), .val (.ref s1), .val (.ref s1), .val (.ref s1), .val (.int wv), .val (.ref s1), .val u, .val (.ref s2), .val (.ref l1), .val (.ref l2)] [(.ref s1), (.ref a)])) rfl rfl (hb hby d2_16)
  have F8 := Fld.same W8 f6
  have N8 := Fr.snoc X8 N5 ha
  have Z8 : n0 ≤ h8.size := by rw [Wr.size W8]; exact Z5
  have K8 := Keep.wr K5 W8 (Or.inl (List.mem_of_getElem? (i := 0) rfl))
  refine Go.st (S' := T8.setTop (mkF m 19 #[.val (.ref a), .val (.ref s1), .val (.ref s1), .val (.ref s1), .val (.ref s1), .val (.ref s1), .val (.ref s1), .val (.int wv), .val (.ref s1), .val u, .val (.ref s2), .val (.ref l1), .val (.ref l2)] [])) (fun t kt => st8 t kt) ?_
  refine Go.st (S' := T8.setTop (mkF m 20 #[.val (.ref a), .val (.ref s1), .val (.ref s1), .val (.ref s1), .val (.ref s1), .val (.ref s1), .val (.ref s1), .val (.int wv), .val (.ref s1), .val u, .val (.ref s2), .val (.ref l1), .val (.ref l2)] [(.ref a)])) (fun t kt => XS.aloadN X8.here hx rfl (hb hby d2_19) rfl rfl kt) ?_
  refine Go.st (S' := T8.setTop (mkF m 22 #[.val (.ref a), .val (.ref s1), .val (.ref s1), .val (.ref s1), .val (.ref s1), .val (.ref s1), .val (.ref s1), .val (.int wv), .val (.ref s1), .val u, .val (.ref s2), .val (.ref l1), .val (.ref l2)] [(.ref s1), (.ref a)])) (fun t kt => XS.aload X8.here hx rfl (hb hby d2_20) rfl rfl kt) ?_
  have f9 := (Fld.other W8 (Fld.other W5 (Fld.other W2 F_version (Or.inr (slot_ne (Or.inr (hw _ (List.mem_of_getElem? (i := 109) rfl))) (Or.inr (hw _ (List.mem_of_getElem? (i := 103) rfl))) (by decide) (t := (.object "java/lang/String")) (t' := (.object "java/lang/String")) (by decide) (by decide)))) (Or.inr (slot_ne (Or.inr (hw _ (List.mem_of_getElem? (i := 109) rfl))) (Or.inr (hw _ (List.mem_of_getElem? (i := 105) rfl))) (by decide) (t := (.object "java/lang/String")) (t' := (.object "java/lang/String")) (by decide) (by decide)))) (Or.inr (slot_ne (Or.inr (hw _ (List.mem_of_getElem? (i := 109) rfl))) (Or.inr (hw _ (List.mem_of_getElem? (i := 107) rfl))) (by decide) (t := (.object "java/lang/String")) (t' := (.object "java/lang/String")) (by decide) (by decide))))
  have f10 := (Exa.wr W8 f7)
  obtain ⟨T11, h11, X11, e11, W11, st11⟩ := putF X8 hx hZ hown (host := "") (Or.inl (hw _ (List.mem_of_getElem? (i := 108) rfl))) Via.refl e8 f9 f10 (Or.inr ⟨(hw _ (List.mem_of_getElem? (i := 109) rfl)), rfl, hnm⟩) (hw _ (List.mem_of_getElem? (i := 91) rfl)) (ty := (.object "java/lang/String")) (by decide) rfl rfl (g := (mkF m 22 #[.val (.ref a), .val (.ref s1), .val (.ref s1), .val (.ref s1), .val (.ref s1), .val (.ref s1), .val (.ref s1), .val (.int wv), .val (.ref s1), .val u, .val (.ref s2), .val (.ref l1), .val (.ref l2)] [(.ref s1), (.ref a)])) rfl rfl (hb hby d2_22)
  have F11 := Fld.same W11 f9
  have N11 := Fr.snoc X11 N8 ha
  have Z11 : n0 ≤ h11.size := by rw [Wr.size W11]; exact Z8
  have K11 := Keep.wr K8 W11 (Or.inl (List.mem_of_getElem? (i := 0) rfl))
  refine Go.st (S' := T11.setTop (mkF m 25 #[.val (.ref a), .val (.ref s1), .val (.ref s1), .val (.ref s1), .val (.ref s1), .val (.ref s1), .val (.ref s1), .val (.int wv), .val (.ref s1), .val u, .val (.ref s2), .val (.ref l1), .val (.ref l2)] [])) (fun t kt => st11 t kt) ?_
  refine Go.st (S' := T11.setTop (mkF m 26 #[.val (.ref a), .val (.ref s1), .val (.ref s1), .val (.ref s1), .val (.ref s1), .val (.ref s1), .val (.ref s1), .val (.int wv), .val (.ref s1), .val u, .val (.ref s2), .val (.ref l1), .val (.ref l2)] [(.ref a)])) (fun t kt => XS.aloadN X11.here hx rfl (hb hby d2_25) rfl rfl kt) ?_
  refine Go.st (S' := T11.setTop (mkF m 28 #[.val (.ref a), .val (.ref s1), .val (.ref s1), .val (.ref s1), .val (.ref s1), .val (.ref s1), .val (.ref s1), .val (.int wv), .val (.ref s1), .val u, .val (.ref s2), .val (.ref l1), .val (.ref l2)] [(.ref s1), (.ref a)])) (fun t kt => XS.aload X11.here hx rfl (hb hby d2_26) rfl rfl kt) ?_
  have f12 := (Fld.other W11 (Fld.other W8 (Fld.other W5 (Fld.other W2 F_language (Or.inr (slot_ne (Or.inr (hw _ (List.mem_of_getElem? (i := 111) rfl))) (Or.inr (hw _ (List.mem_of_getElem? (i := 103) rfl))) (by decide) (t := (.object "java/lang/String")) (t' := (.object "java/lang/String")) (by decide) (by decide)))) (Or.inr (slot_ne (Or.inr (hw _ (List.mem_of_getElem? (i := 111) rfl))) (Or.inr (hw _ (List.mem_of_getElem? (i := 105) rfl))) (by decide) (t := (.object "java/lang/String")) (t' := (.object "java/lang/String")) (by decide) (by decide)))) (Or.inr (slot_ne (Or.inr (hw _ (List.mem_of_getElem? (i := 111) rfl))) (Or.inr (hw _ (List.mem_of_getElem? (i := 107) rfl))) (by decide) (t := (.object "java/lang/String")) (t' := (.object "java/lang/String")) (by decide) (by decide)))) (Or.inr (slot_ne (Or.inr (hw _ (List.mem_of_getElem? (i := 111) rfl))) (Or.inr (hw _ (List.mem_of_getElem? (i := 109) rfl))) (by decide) (t := (.object "java/lang/String")) (t' := (.object "java/lang/String")) (by decide) (by decide))))
  have f13 := (Exa.wr W11 f10)
  obtain ⟨T14, h14, X14, e14, W14, st14⟩ := putF X11 hx hZ hown (host := "") (Or.inl (hw _ (List.mem_of_getElem? (i := 110) rfl))) Via.refl e11 f12 f13 (Or.inr ⟨(hw _ (List.mem_of_getElem? (i := 111) rfl)), rfl, hnm⟩) (hw _ (List.mem_of_getElem? (i := 91) rfl)) (ty := (.object "java/lang/String")) (by decide) rfl rfl (g := (mkF m 28 #[.val (.ref a), .val (.ref s1), .val (.ref s1), .val (.ref s1), .val (.ref s1), .val (.ref s1), .val (.ref s1), .val (.int wv), .val (.ref s1), .val u, .val (.ref s2), .val (.ref l1), .val (.ref l2)] [(.ref s1), (.ref a)])) rfl rfl (hb hby d2_28)
  have F14 := Fld.same W14 f12
  have N14 := Fr.snoc X14 N11 ha
  have Z14 : n0 ≤ h14.size := by rw [Wr.size W14]; exact Z11
  have K14 := Keep.wr K11 W14 (Or.inl (List.mem_of_getElem? (i := 0) rfl))
  refine Go.st (S' := T14.setTop (mkF m 31 #[.val (.ref a), .val (.ref s1), .val (.ref s1), .val (.ref s1), .val (.ref s1), .val (.ref s1), .val (.ref s1), .val (.int wv), .val (.ref s1), .val u, .val (.ref s2), .val (.ref l1), .val (.ref l2)] [])) (fun t kt => st14 t kt) ?_
  refine Go.st (S' := T14.setTop (mkF m 32 #[.val (.ref a), .val (.ref s1), .val (.ref s1), .val (.ref s1), .val (.ref s1), .val (.ref s1), .val (.ref s1), .val (.int wv), .val (.ref s1), .val u, .val (.ref s2), .val (.ref l1), .val (.ref l2)] [(.ref a)])) (fun t kt => XS.aloadN X14.here hx rfl (hb hby d2_31) rfl rfl kt) ?_
  refine Go.st (S' := T14.setTop (mkF m 34 #[.val (.ref a), .val (.ref s1), .val (.ref s1), .val (.ref s1), .val (.ref s1), .val (.ref s1), .val (.ref s1), .val (.int wv), .val (.ref s1), .val u, .val (.ref s2), .val (.ref l1), .val (.ref l2)] [(.ref s1), (.ref a)])) (fun t kt => XS.aload X14.here hx rfl (hb hby d2_32) rfl rfl kt) ?_
  have f15 := (Fld.other W14 (Fld.other W11 (Fld.other W8 (Fld.other W5 (Fld.other W2 F_workflow (Or.inr (slot_ne (Or.inr (hw _ (List.mem_of_getElem? (i := 113) rfl))) (Or.inr (hw _ (List.mem_of_getElem? (i := 103) rfl))) (by decide) (t := (.object "java/lang/String")) (t' := (.object "java/lang/String")) (by decide) (by decide)))) (Or.inr (slot_ne (Or.inr (hw _ (List.mem_of_getElem? (i := 113) rfl))) (Or.inr (hw _ (List.mem_of_getElem? (i := 105) rfl))) (by decide) (t := (.object "java/lang/String")) (t' := (.object "java/lang/String")) (by decide) (by decide)))) (Or.inr (slot_ne (Or.inr (hw _ (List.mem_of_getElem? (i := 113) rfl))) (Or.inr (hw _ (List.mem_of_getElem? (i := 107) rfl))) (by decide) (t := (.object "java/lang/String")) (t' := (.object "java/lang/String")) (by decide) (by decide)))) (Or.inr (slot_ne (Or.inr (hw _ (List.mem_of_getElem? (i := 113) rfl))) (Or.inr (hw _ (List.mem_of_getElem? (i := 109) rfl))) (by decide) (t := (.object "java/lang/String")) (t' := (.object "java/lang/String")) (by decide) (by decide)))) (Or.inr (slot_ne (Or.inr (hw _ (List.mem_of_getElem? (i := 113) rfl))) (Or.inr (hw _ (List.mem_of_getElem? (i := 111) rfl))) (by decide) (t := (.object "java/lang/String")) (t' := (.object "java/lang/String")) (by decide) (by decide))))
  have f16 := (Exa.wr W14 f13)
  obtain ⟨T17, h17, X17, e17, W17, st17⟩ := putF X14 hx hZ hown (host := "") (Or.inl (hw _ (List.mem_of_getElem? (i := 112) rfl))) Via.refl e14 f15 f16 (Or.inr ⟨(hw _ (List.mem_of_getElem? (i := 113) rfl)), rfl, hnm⟩) (hw _ (List.mem_of_getElem? (i := 91) rfl)) (ty := (.object "java/lang/String")) (by decide) rfl rfl (g := (mkF m 34 #[.val (.ref a), .val (.ref s1), .val (.ref s1), .val (.ref s1), .val (.ref s1), .val (.ref s1), .val (.ref s1), .val (.int wv), .val (.ref s1), .val u, .val (.ref s2), .val (.ref l1), .val (.ref l2)] [(.ref s1), (.ref a)])) rfl rfl (hb hby d2_34)
  have F17 := Fld.same W17 f15
  have N17 := Fr.snoc X17 N14 ha
  have Z17 : n0 ≤ h17.size := by rw [Wr.size W17]; exact Z14
  have K17 := Keep.wr K14 W17 (Or.inl (List.mem_of_getElem? (i := 0) rfl))
  refine Go.st (S' := T17.setTop (mkF m 37 #[.val (.ref a), .val (.ref s1), .val (.ref s1), .val (.ref s1), .val (.ref s1), .val (.ref s1), .val (.ref s1), .val (.int wv), .val (.ref s1), .val u, .val (.ref s2), .val (.ref l1), .val (.ref l2)] [])) (fun t kt => st17 t kt) ?_
  refine Go.st (S' := T17.setTop (mkF m 38 #[.val (.ref a), .val (.ref s1), .val (.ref s1), .val (.ref s1), .val (.ref s1), .val (.ref s1), .val (.ref s1), .val (.int wv), .val (.ref s1), .val u, .val (.ref s2), .val (.ref l1), .val (.ref l2)] [(.ref a)])) (fun t kt => XS.aloadN X17.here hx rfl (hb hby d2_37) rfl rfl kt) ?_
  refine Go.st (S' := T17.setTop (mkF m 40 #[.val (.ref a), .val (.ref s1), .val (.ref s1), .val (.ref s1), .val (.ref s1), .val (.ref s1), .val (.ref s1), .val (.int wv), .val (.ref s1), .val u, .val (.ref s2), .val (.ref l1), .val (.ref l2)] [(.int wv), (.ref a)])) (fun t kt => XS.iload X17.here hx rfl (hb hby d2_38) rfl kt) ?_
  have f18 := (Fld.other W17 (Fld.other W14 (Fld.other W11 (Fld.other W8 (Fld.other W5 (Fld.other W2 F_workflowVersion (Or.inr (slot_ne (Or.inr (hw _ (List.mem_of_getElem? (i := 115) rfl))) (Or.inr (hw _ (List.mem_of_getElem? (i := 103) rfl))) (by decide) (t := .int) (t' := (.object "java/lang/String")) (by decide) (by decide)))) (Or.inr (slot_ne (Or.inr (hw _ (List.mem_of_getElem? (i := 115) rfl))) (Or.inr (hw _ (List.mem_of_getElem? (i := 105) rfl))) (by decide) (t := .int) (t' := (.object "java/lang/String")) (by decide) (by decide)))) (Or.inr (slot_ne (Or.inr (hw _ (List.mem_of_getElem? (i := 115) rfl))) (Or.inr (hw _ (List.mem_of_getElem? (i := 107) rfl))) (by decide) (t := .int) (t' := (.object "java/lang/String")) (by decide) (by decide)))) (Or.inr (slot_ne (Or.inr (hw _ (List.mem_of_getElem? (i := 115) rfl))) (Or.inr (hw _ (List.mem_of_getElem? (i := 109) rfl))) (by decide) (t := .int) (t' := (.object "java/lang/String")) (by decide) (by decide)))) (Or.inr (slot_ne (Or.inr (hw _ (List.mem_of_getElem? (i := 115) rfl))) (Or.inr (hw _ (List.mem_of_getElem? (i := 111) rfl))) (by decide) (t := .int) (t' := (.object "java/lang/String")) (by decide) (by decide)))) (Or.inr (slot_ne (Or.inr (hw _ (List.mem_of_getElem? (i := 115) rfl))) (Or.inr (hw _ (List.mem_of_getElem? (i := 113) rfl))) (by decide) (t := .int) (t' := (.object "java/lang/String")) (by decide) (by decide))))
  have f19 := (Exa.wr W17 f16)
  obtain ⟨T20, h20, X20, e20, W20, st20⟩ := putF X17 hx hZ hown (host := "") (Or.inl (hw _ (List.mem_of_getElem? (i := 114) rfl))) Via.refl e17 f18 f19 (Or.inr ⟨(hw _ (List.mem_of_getElem? (i := 115) rfl)), rfl, hnm⟩) (hw _ (List.mem_of_getElem? (i := 91) rfl)) (ty := .int) (by decide) rfl rfl (g := (mkF m 40 #[.val (.ref a), .val (.ref s1), .val (.ref s1), .val (.ref s1), .val (.ref s1), .val (.ref s1), .val (.ref s1), .val (.int wv), .val (.ref s1), .val u, .val (.ref s2), .val (.ref l1), .val (.ref l2)] [(.int wv), (.ref a)])) rfl rfl (hb hby d2_40)
  have F20 := Fld.same W20 f18
  have N20 := Fr.snoc X20 N17 ha
  have Z20 : n0 ≤ h20.size := by rw [Wr.size W20]; exact Z17
  have K20 := Keep.wr K17 W20 (Or.inl (List.mem_of_getElem? (i := 0) rfl))
  refine Go.st (S' := T20.setTop (mkF m 43 #[.val (.ref a), .val (.ref s1), .val (.ref s1), .val (.ref s1), .val (.ref s1), .val (.ref s1), .val (.ref s1), .val (.int wv), .val (.ref s1), .val u, .val (.ref s2), .val (.ref l1), .val (.ref l2)] [])) (fun t kt => st20 t kt) ?_
  refine Go.st (S' := T20.setTop (mkF m 44 #[.val (.ref a), .val (.ref s1), .val (.ref s1), .val (.ref s1), .val (.ref s1), .val (.ref s1), .val (.ref s1), .val (.int wv), .val (.ref s1), .val u, .val (.ref s2), .val (.ref l1), .val (.ref l2)] [(.ref a)])) (fun t kt => XS.aloadN X20.here hx rfl (hb hby d2_43) rfl rfl kt) ?_
  refine Go.st (S' := T20.setTop (mkF m 46 #[.val (.ref a), .val (.ref s1), .val (.ref s1), .val (.ref s1), .val (.ref s1), .val (.ref s1), .val (.ref s1), .val (.int wv), .val (.ref s1), .val u, .val (.ref s2), .val (.ref l1), .val (.ref l2)] [(.ref s1), (.ref a)])) (fun t kt => XS.aload X20.here hx rfl (hb hby d2_44) rfl rfl kt) ?_
  have f21 := (Fld.other W20 (Fld.other W17 (Fld.other W14 (Fld.other W11 (Fld.other W8 (Fld.other W5 (Fld.other W2 F_state (Or.inr (slot_ne (Or.inr (hw _ (List.mem_of_getElem? (i := 117) rfl))) (Or.inr (hw _ (List.mem_of_getElem? (i := 103) rfl))) (by decide) (t := (.object "java/lang/String")) (t' := (.object "java/lang/String")) (by decide) (by decide)))) (Or.inr (slot_ne (Or.inr (hw _ (List.mem_of_getElem? (i := 117) rfl))) (Or.inr (hw _ (List.mem_of_getElem? (i := 105) rfl))) (by decide) (t := (.object "java/lang/String")) (t' := (.object "java/lang/String")) (by decide) (by decide)))) (Or.inr (slot_ne (Or.inr (hw _ (List.mem_of_getElem? (i := 117) rfl))) (Or.inr (hw _ (List.mem_of_getElem? (i := 107) rfl))) (by decide) (t := (.object "java/lang/String")) (t' := (.object "java/lang/String")) (by decide) (by decide)))) (Or.inr (slot_ne (Or.inr (hw _ (List.mem_of_getElem? (i := 117) rfl))) (Or.inr (hw _ (List.mem_of_getElem? (i := 109) rfl))) (by decide) (t := (.object "java/lang/String")) (t' := (.object "java/lang/String")) (by decide) (by decide)))) (Or.inr (slot_ne (Or.inr (hw _ (List.mem_of_getElem? (i := 117) rfl))) (Or.inr (hw _ (List.mem_of_getElem? (i := 111) rfl))) (by decide) (t := (.object "java/lang/String")) (t' := (.object "java/lang/String")) (by decide) (by decide)))) (Or.inr (slot_ne (Or.inr (hw _ (List.mem_of_getElem? (i := 117) rfl))) (Or.inr (hw _ (List.mem_of_getElem? (i := 113) rfl))) (by decide) (t := (.object "java/lang/String")) (t' := (.object "java/lang/String")) (by decide) (by decide)))) (Or.inr (slot_ne (Or.inr (hw _ (List.mem_of_getElem? (i := 117) rfl))) (Or.inr (hw _ (List.mem_of_getElem? (i := 115) rfl))) (by decide) (t := (.object "java/lang/String")) (t' := .int) (by decide) (by decide))))
  have f22 := (Exa.wr W20 f19)
  obtain ⟨T23, h23, X23, e23, W23, st23⟩ := putF X20 hx hZ hown (host := "") (Or.inl (hw _ (List.mem_of_getElem? (i := 116) rfl))) Via.refl e20 f21 f22 (Or.inr ⟨(hw _ (List.mem_of_getElem? (i := 117) rfl)), rfl, hnm⟩) (hw _ (List.mem_of_getElem? (i := 91) rfl)) (ty := (.object "java/lang/String")) (by decide) rfl rfl (g := (mkF m 46 #[.val (.ref a), .val (.ref s1), .val (.ref s1), .val (.ref s1), .val (.ref s1), .val (.ref s1), .val (.ref s1), .val (.int wv), .val (.ref s1), .val u, .val (.ref s2), .val (.ref l1), .val (.ref l2)] [(.ref s1), (.ref a)])) rfl rfl (hb hby d2_46)
  have F23 := Fld.same W23 f21
  have N23 := Fr.snoc X23 N20 ha
  have Z23 : n0 ≤ h23.size := by rw [Wr.size W23]; exact Z20
  have K23 := Keep.wr K20 W23 (Or.inl (List.mem_of_getElem? (i := 0) rfl))
  refine Go.st (S' := T23.setTop (mkF m 49 #[.val (.ref a), .val (.ref s1), .val (.ref s1), .val (.ref s1), .val (.ref s1), .val (.ref s1), .val (.ref s1), .val (.int wv), .val (.ref s1), .val u, .val (.ref s2), .val (.ref l1), .val (.ref l2)] [])) (fun t kt => st23 t kt) ?_
  refine Go.st (S' := T23.setTop (mkF m 50 #[.val (.ref a), .val (.ref s1), .val (.ref s1), .val (.ref s1), .val (.ref s1), .val (.ref s1), .val (.ref s1), .val (.int wv), .val (.ref s1), .val u, .val (.ref s2), .val (.ref l1), .val (.ref l2)] [(.ref a)])) (fun t kt => XS.aloadN X23.here hx rfl (hb hby d2_49) rfl rfl kt) ?_
  refine Go.st (S' := T23.setTop (mkF m 52 #[.val (.ref a), .val (.ref s1), .val (.ref s1), .val (.ref s1), .val (.ref s1), .val (.ref s1), .val (.ref s1), .val (.int wv), .val (.ref s1), .val u, .val (.ref s2), .val (.ref l1), .val (.ref l2)] [u, (.ref a)])) (fun t kt => XS.aload X23.here hx rfl (hb hby d2_50) rfl hu kt) ?_
  have f24 := (Fld.other W23 (Fld.other W20 (Fld.other W17 (Fld.other W14 (Fld.other W11 (Fld.other W8 (Fld.other W5 (Fld.other W2 F_outcome (Or.inr (slot_ne (Or.inr (hw _ (List.mem_of_getElem? (i := 119) rfl))) (Or.inr (hw _ (List.mem_of_getElem? (i := 103) rfl))) (by decide) (t := (.object "com/example/imprimatur/imprimatur/config/Outcome")) (t' := (.object "java/lang/String")) (by decide) (by decide)))) (Or.inr (slot_ne (Or.inr (hw _ (List.mem_of_getElem? (i := 119) rfl))) (Or.inr (hw _ (List.mem_of_getElem? (i := 105) rfl))) (by decide) (t := (.object "com/example/imprimatur/imprimatur/config/Outcome")) (t' := (.object "java/lang/String")) (by decide) (by decide)))) (Or.inr (slot_ne (Or.inr (hw _ (List.mem_of_getElem? (i := 119) rfl))) (Or.inr (hw _ (List.mem_of_getElem? (i := 107) rfl))) (by decide) (t := (.object "com/example/imprimatur/imprimatur/config/Outcome")) (t' := (.object "java/lang/String")) (by decide) (by decide)))) (Or.inr (slot_ne (Or.inr (hw _ (List.mem_of_getElem? (i := 119) rfl))) (Or.inr (hw _ (List.mem_of_getElem? (i := 109) rfl))) (by decide) (t := (.object "com/example/imprimatur/imprimatur/config/Outcome")) (t' := (.object "java/lang/String")) (by decide) (by decide)))) (Or.inr (slot_ne (Or.inr (hw _ (List.mem_of_getElem? (i := 119) rfl))) (Or.inr (hw _ (List.mem_of_getElem? (i := 111) rfl))) (by decide) (t := (.object "com/example/imprimatur/imprimatur/config/Outcome")) (t' := (.object "java/lang/String")) (by decide) (by decide)))) (Or.inr (slot_ne (Or.inr (hw _ (List.mem_of_getElem? (i := 119) rfl))) (Or.inr (hw _ (List.mem_of_getElem? (i := 113) rfl))) (by decide) (t := (.object "com/example/imprimatur/imprimatur/config/Outcome")) (t' := (.object "java/lang/String")) (by decide) (by decide)))) (Or.inr (slot_ne (Or.inr (hw _ (List.mem_of_getElem? (i := 119) rfl))) (Or.inr (hw _ (List.mem_of_getElem? (i := 115) rfl))) (by decide) (t := (.object "com/example/imprimatur/imprimatur/config/Outcome")) (t' := .int) (by decide) (by decide)))) (Or.inr (slot_ne (Or.inr (hw _ (List.mem_of_getElem? (i := 119) rfl))) (Or.inr (hw _ (List.mem_of_getElem? (i := 117) rfl))) (by decide) (t := (.object "com/example/imprimatur/imprimatur/config/Outcome")) (t' := (.object "java/lang/String")) (by decide) (by decide))))
  have f25 := (Exa.wr W23 f22)
  obtain ⟨T26, h26, X26, e26, W26, st26⟩ := putF X23 hx hZ hown (host := "") (Or.inl (hw _ (List.mem_of_getElem? (i := 118) rfl))) Via.refl e23 f24 f25 (Or.inr ⟨(hw _ (List.mem_of_getElem? (i := 119) rfl)), rfl, hnm⟩) (hw _ (List.mem_of_getElem? (i := 91) rfl)) (ty := (.object "com/example/imprimatur/imprimatur/config/Outcome")) (by decide) (own_nar_ref hu) (own_fit_ref hu) (g := (mkF m 52 #[.val (.ref a), .val (.ref s1), .val (.ref s1), .val (.ref s1), .val (.ref s1), .val (.ref s1), .val (.ref s1), .val (.int wv), .val (.ref s1), .val u, .val (.ref s2), .val (.ref l1), .val (.ref l2)] [u, (.ref a)])) rfl rfl (hb hby d2_52)
  have F26 := Fld.same W26 f24
  have N26 := Fr.snoc X26 N23 ha
  have Z26 : n0 ≤ h26.size := by rw [Wr.size W26]; exact Z23
  have K26 := Keep.wr K23 W26 (Or.inl (List.mem_of_getElem? (i := 0) rfl))
  refine Go.st (S' := T26.setTop (mkF m 55 #[.val (.ref a), .val (.ref s1), .val (.ref s1), .val (.ref s1), .val (.ref s1), .val (.ref s1), .val (.ref s1), .val (.int wv), .val (.ref s1), .val u, .val (.ref s2), .val (.ref l1), .val (.ref l2)] [])) (fun t kt => st26 t kt) ?_
  refine Go.st (S' := T26.setTop (mkF m 56 #[.val (.ref a), .val (.ref s1), .val (.ref s1), .val (.ref s1), .val (.ref s1), .val (.ref s1), .val (.ref s1), .val (.int wv), .val (.ref s1), .val u, .val (.ref s2), .val (.ref l1), .val (.ref l2)] [(.ref a)])) (fun t kt => XS.aloadN X26.here hx rfl (hb hby d2_55) rfl rfl kt) ?_
  refine Go.st (S' := T26.setTop (mkF m 58 #[.val (.ref a), .val (.ref s1), .val (.ref s1), .val (.ref s1), .val (.ref s1), .val (.ref s1), .val (.ref s1), .val (.int wv), .val (.ref s1), .val u, .val (.ref s2), .val (.ref l1), .val (.ref l2)] [(.ref s2), (.ref a)])) (fun t kt => XS.aload X26.here hx rfl (hb hby d2_56) rfl rfl kt) ?_
  have f27 := (Fld.other W26 (Fld.other W23 (Fld.other W20 (Fld.other W17 (Fld.other W14 (Fld.other W11 (Fld.other W8 (Fld.other W5 (Fld.other W2 F_submittedBy (Or.inr (slot_ne (Or.inr (hw _ (List.mem_of_getElem? (i := 121) rfl))) (Or.inr (hw _ (List.mem_of_getElem? (i := 103) rfl))) (by decide) (t := (.object "java/lang/String")) (t' := (.object "java/lang/String")) (by decide) (by decide)))) (Or.inr (slot_ne (Or.inr (hw _ (List.mem_of_getElem? (i := 121) rfl))) (Or.inr (hw _ (List.mem_of_getElem? (i := 105) rfl))) (by decide) (t := (.object "java/lang/String")) (t' := (.object "java/lang/String")) (by decide) (by decide)))) (Or.inr (slot_ne (Or.inr (hw _ (List.mem_of_getElem? (i := 121) rfl))) (Or.inr (hw _ (List.mem_of_getElem? (i := 107) rfl))) (by decide) (t := (.object "java/lang/String")) (t' := (.object "java/lang/String")) (by decide) (by decide)))) (Or.inr (slot_ne (Or.inr (hw _ (List.mem_of_getElem? (i := 121) rfl))) (Or.inr (hw _ (List.mem_of_getElem? (i := 109) rfl))) (by decide) (t := (.object "java/lang/String")) (t' := (.object "java/lang/String")) (by decide) (by decide)))) (Or.inr (slot_ne (Or.inr (hw _ (List.mem_of_getElem? (i := 121) rfl))) (Or.inr (hw _ (List.mem_of_getElem? (i := 111) rfl))) (by decide) (t := (.object "java/lang/String")) (t' := (.object "java/lang/String")) (by decide) (by decide)))) (Or.inr (slot_ne (Or.inr (hw _ (List.mem_of_getElem? (i := 121) rfl))) (Or.inr (hw _ (List.mem_of_getElem? (i := 113) rfl))) (by decide) (t := (.object "java/lang/String")) (t' := (.object "java/lang/String")) (by decide) (by decide)))) (Or.inr (slot_ne (Or.inr (hw _ (List.mem_of_getElem? (i := 121) rfl))) (Or.inr (hw _ (List.mem_of_getElem? (i := 115) rfl))) (by decide) (t := (.object "java/lang/String")) (t' := .int) (by decide) (by decide)))) (Or.inr (slot_ne (Or.inr (hw _ (List.mem_of_getElem? (i := 121) rfl))) (Or.inr (hw _ (List.mem_of_getElem? (i := 117) rfl))) (by decide) (t := (.object "java/lang/String")) (t' := (.object "java/lang/String")) (by decide) (by decide)))) (Or.inr (slot_ne (Or.inr (hw _ (List.mem_of_getElem? (i := 121) rfl))) (Or.inr (hw _ (List.mem_of_getElem? (i := 119) rfl))) (by decide) (t := (.object "java/lang/String")) (t' := (.object "com/example/imprimatur/imprimatur/config/Outcome")) (by decide) (by decide))))
  have f28 := (Exa.wr W26 f25)
  obtain ⟨T29, h29, X29, e29, W29, st29⟩ := putF X26 hx hZ hown (host := "") (Or.inl (hw _ (List.mem_of_getElem? (i := 120) rfl))) Via.refl e26 f27 f28 (Or.inr ⟨(hw _ (List.mem_of_getElem? (i := 121) rfl)), rfl, hnm⟩) (hw _ (List.mem_of_getElem? (i := 91) rfl)) (ty := (.object "java/lang/String")) (by decide) rfl rfl (g := (mkF m 58 #[.val (.ref a), .val (.ref s1), .val (.ref s1), .val (.ref s1), .val (.ref s1), .val (.ref s1), .val (.ref s1), .val (.int wv), .val (.ref s1), .val u, .val (.ref s2), .val (.ref l1), .val (.ref l2)] [(.ref s2), (.ref a)])) rfl rfl (hb hby d2_58)
  have F29 := Fld.same W29 f27
  have N29 := Fr.snoc X29 N26 ha
  have Z29 : n0 ≤ h29.size := by rw [Wr.size W29]; exact Z26
  have K29 := Keep.wr K26 W29 (Or.inl (List.mem_of_getElem? (i := 0) rfl))
  refine Go.st (S' := T29.setTop (mkF m 61 #[.val (.ref a), .val (.ref s1), .val (.ref s1), .val (.ref s1), .val (.ref s1), .val (.ref s1), .val (.ref s1), .val (.int wv), .val (.ref s1), .val u, .val (.ref s2), .val (.ref l1), .val (.ref l2)] [])) (fun t kt => st29 t kt) ?_
  refine Go.st (S' := T29.setTop (mkF m 62 #[.val (.ref a), .val (.ref s1), .val (.ref s1), .val (.ref s1), .val (.ref s1), .val (.ref s1), .val (.ref s1), .val (.int wv), .val (.ref s1), .val u, .val (.ref s2), .val (.ref l1), .val (.ref l2)] [(.ref a)])) (fun t kt => XS.aloadN X29.here hx rfl (hb hby d2_61) rfl rfl kt) ?_
  refine Go.st (S' := T29.setTop (mkF m 64 #[.val (.ref a), .val (.ref s1), .val (.ref s1), .val (.ref s1), .val (.ref s1), .val (.ref s1), .val (.ref s1), .val (.int wv), .val (.ref s1), .val u, .val (.ref s2), .val (.ref l1), .val (.ref l2)] [(.ref l1), (.ref a)])) (fun t kt => XS.aload X29.here hx rfl (hb hby d2_62) rfl rfl kt) ?_
  have f30 := (Fld.other W29 (Fld.other W26 (Fld.other W23 (Fld.other W20 (Fld.other W17 (Fld.other W14 (Fld.other W11 (Fld.other W8 (Fld.other W5 (Fld.other W2 F_authors (Or.inr (slot_ne (Or.inr (hw _ (List.mem_of_getElem? (i := 123) rfl))) (Or.inr (hw _ (List.mem_of_getElem? (i := 103) rfl))) (by decide) (t := (.object "java/util/List")) (t' := (.object "java/lang/String")) (by decide) (by decide)))) (Or.inr (slot_ne (Or.inr (hw _ (List.mem_of_getElem? (i := 123) rfl))) (Or.inr (hw _ (List.mem_of_getElem? (i := 105) rfl))) (by decide) (t := (.object "java/util/List")) (t' := (.object "java/lang/String")) (by decide) (by decide)))) (Or.inr (slot_ne (Or.inr (hw _ (List.mem_of_getElem? (i := 123) rfl))) (Or.inr (hw _ (List.mem_of_getElem? (i := 107) rfl))) (by decide) (t := (.object "java/util/List")) (t' := (.object "java/lang/String")) (by decide) (by decide)))) (Or.inr (slot_ne (Or.inr (hw _ (List.mem_of_getElem? (i := 123) rfl))) (Or.inr (hw _ (List.mem_of_getElem? (i := 109) rfl))) (by decide) (t := (.object "java/util/List")) (t' := (.object "java/lang/String")) (by decide) (by decide)))) (Or.inr (slot_ne (Or.inr (hw _ (List.mem_of_getElem? (i := 123) rfl))) (Or.inr (hw _ (List.mem_of_getElem? (i := 111) rfl))) (by decide) (t := (.object "java/util/List")) (t' := (.object "java/lang/String")) (by decide) (by decide)))) (Or.inr (slot_ne (Or.inr (hw _ (List.mem_of_getElem? (i := 123) rfl))) (Or.inr (hw _ (List.mem_of_getElem? (i := 113) rfl))) (by decide) (t := (.object "java/util/List")) (t' := (.object "java/lang/String")) (by decide) (by decide)))) (Or.inr (slot_ne (Or.inr (hw _ (List.mem_of_getElem? (i := 123) rfl))) (Or.inr (hw _ (List.mem_of_getElem? (i := 115) rfl))) (by decide) (t := (.object "java/util/List")) (t' := .int) (by decide) (by decide)))) (Or.inr (slot_ne (Or.inr (hw _ (List.mem_of_getElem? (i := 123) rfl))) (Or.inr (hw _ (List.mem_of_getElem? (i := 117) rfl))) (by decide) (t := (.object "java/util/List")) (t' := (.object "java/lang/String")) (by decide) (by decide)))) (Or.inr (slot_ne (Or.inr (hw _ (List.mem_of_getElem? (i := 123) rfl))) (Or.inr (hw _ (List.mem_of_getElem? (i := 119) rfl))) (by decide) (t := (.object "java/util/List")) (t' := (.object "com/example/imprimatur/imprimatur/config/Outcome")) (by decide) (by decide)))) (Or.inr (slot_ne (Or.inr (hw _ (List.mem_of_getElem? (i := 123) rfl))) (Or.inr (hw _ (List.mem_of_getElem? (i := 121) rfl))) (by decide) (t := (.object "java/util/List")) (t' := (.object "java/lang/String")) (by decide) (by decide))))
  have f31 := (Exa.wr W29 f28)
  obtain ⟨T32, h32, X32, e32, W32, st32⟩ := putF X29 hx hZ hown (host := "") (Or.inl (hw _ (List.mem_of_getElem? (i := 122) rfl))) Via.refl e29 f30 f31 (Or.inr ⟨(hw _ (List.mem_of_getElem? (i := 123) rfl)), rfl, hnm⟩) (hw _ (List.mem_of_getElem? (i := 91) rfl)) (ty := (.object "java/util/List")) (by decide) rfl rfl (g := (mkF m 64 #[.val (.ref a), .val (.ref s1), .val (.ref s1), .val (.ref s1), .val (.ref s1), .val (.ref s1), .val (.ref s1), .val (.int wv), .val (.ref s1), .val u, .val (.ref s2), .val (.ref l1), .val (.ref l2)] [(.ref l1), (.ref a)])) rfl rfl (hb hby d2_64)
  have F32 := Fld.same W32 f30
  have N32 := Fr.snoc X32 N29 ha
  have Z32 : n0 ≤ h32.size := by rw [Wr.size W32]; exact Z29
  have K32 := Keep.wr K29 W32 (Or.inl (List.mem_of_getElem? (i := 0) rfl))
  refine Go.st (S' := T32.setTop (mkF m 67 #[.val (.ref a), .val (.ref s1), .val (.ref s1), .val (.ref s1), .val (.ref s1), .val (.ref s1), .val (.ref s1), .val (.int wv), .val (.ref s1), .val u, .val (.ref s2), .val (.ref l1), .val (.ref l2)] [])) (fun t kt => st32 t kt) ?_
  refine Go.st (S' := T32.setTop (mkF m 68 #[.val (.ref a), .val (.ref s1), .val (.ref s1), .val (.ref s1), .val (.ref s1), .val (.ref s1), .val (.ref s1), .val (.int wv), .val (.ref s1), .val u, .val (.ref s2), .val (.ref l1), .val (.ref l2)] [(.ref a)])) (fun t kt => XS.aloadN X32.here hx rfl (hb hby d2_67) rfl rfl kt) ?_
  refine Go.st (S' := T32.setTop (mkF m 70 #[.val (.ref a), .val (.ref s1), .val (.ref s1), .val (.ref s1), .val (.ref s1), .val (.ref s1), .val (.ref s1), .val (.int wv), .val (.ref s1), .val u, .val (.ref s2), .val (.ref l1), .val (.ref l2)] [(.ref l2), (.ref a)])) (fun t kt => XS.aload X32.here hx rfl (hb hby d2_68) rfl rfl kt) ?_
  have f33 := (Fld.other W32 (Fld.other W29 (Fld.other W26 (Fld.other W23 (Fld.other W20 (Fld.other W17 (Fld.other W14 (Fld.other W11 (Fld.other W8 (Fld.other W5 (Fld.other W2 F_transitions (Or.inr (slot_ne (Or.inr (hw _ (List.mem_of_getElem? (i := 125) rfl))) (Or.inr (hw _ (List.mem_of_getElem? (i := 103) rfl))) (by decide) (t := (.object "java/util/List")) (t' := (.object "java/lang/String")) (by decide) (by decide)))) (Or.inr (slot_ne (Or.inr (hw _ (List.mem_of_getElem? (i := 125) rfl))) (Or.inr (hw _ (List.mem_of_getElem? (i := 105) rfl))) (by decide) (t := (.object "java/util/List")) (t' := (.object "java/lang/String")) (by decide) (by decide)))) (Or.inr (slot_ne (Or.inr (hw _ (List.mem_of_getElem? (i := 125) rfl))) (Or.inr (hw _ (List.mem_of_getElem? (i := 107) rfl))) (by decide) (t := (.object "java/util/List")) (t' := (.object "java/lang/String")) (by decide) (by decide)))) (Or.inr (slot_ne (Or.inr (hw _ (List.mem_of_getElem? (i := 125) rfl))) (Or.inr (hw _ (List.mem_of_getElem? (i := 109) rfl))) (by decide) (t := (.object "java/util/List")) (t' := (.object "java/lang/String")) (by decide) (by decide)))) (Or.inr (slot_ne (Or.inr (hw _ (List.mem_of_getElem? (i := 125) rfl))) (Or.inr (hw _ (List.mem_of_getElem? (i := 111) rfl))) (by decide) (t := (.object "java/util/List")) (t' := (.object "java/lang/String")) (by decide) (by decide)))) (Or.inr (slot_ne (Or.inr (hw _ (List.mem_of_getElem? (i := 125) rfl))) (Or.inr (hw _ (List.mem_of_getElem? (i := 113) rfl))) (by decide) (t := (.object "java/util/List")) (t' := (.object "java/lang/String")) (by decide) (by decide)))) (Or.inr (slot_ne (Or.inr (hw _ (List.mem_of_getElem? (i := 125) rfl))) (Or.inr (hw _ (List.mem_of_getElem? (i := 115) rfl))) (by decide) (t := (.object "java/util/List")) (t' := .int) (by decide) (by decide)))) (Or.inr (slot_ne (Or.inr (hw _ (List.mem_of_getElem? (i := 125) rfl))) (Or.inr (hw _ (List.mem_of_getElem? (i := 117) rfl))) (by decide) (t := (.object "java/util/List")) (t' := (.object "java/lang/String")) (by decide) (by decide)))) (Or.inr (slot_ne (Or.inr (hw _ (List.mem_of_getElem? (i := 125) rfl))) (Or.inr (hw _ (List.mem_of_getElem? (i := 119) rfl))) (by decide) (t := (.object "java/util/List")) (t' := (.object "com/example/imprimatur/imprimatur/config/Outcome")) (by decide) (by decide)))) (Or.inr (slot_ne (Or.inr (hw _ (List.mem_of_getElem? (i := 125) rfl))) (Or.inr (hw _ (List.mem_of_getElem? (i := 121) rfl))) (by decide) (t := (.object "java/util/List")) (t' := (.object "java/lang/String")) (by decide) (by decide)))) (Or.inr (slot_ne (Or.inr (hw _ (List.mem_of_getElem? (i := 125) rfl))) (Or.inr (hw _ (List.mem_of_getElem? (i := 123) rfl))) (by decide) (t := (.object "java/util/List")) (t' := (.object "java/util/List")) (by decide) (by decide))))
  have f34 := (Exa.wr W32 f31)
  obtain ⟨T35, h35, X35, e35, W35, st35⟩ := putF X32 hx hZ hown (host := "") (Or.inl (hw _ (List.mem_of_getElem? (i := 124) rfl))) Via.refl e32 f33 f34 (Or.inr ⟨(hw _ (List.mem_of_getElem? (i := 125) rfl)), rfl, hnm⟩) (hw _ (List.mem_of_getElem? (i := 91) rfl)) (ty := (.object "java/util/List")) (by decide) rfl rfl (g := (mkF m 70 #[.val (.ref a), .val (.ref s1), .val (.ref s1), .val (.ref s1), .val (.ref s1), .val (.ref s1), .val (.ref s1), .val (.int wv), .val (.ref s1), .val u, .val (.ref s2), .val (.ref l1), .val (.ref l2)] [(.ref l2), (.ref a)])) rfl rfl (hb hby d2_70)
  have F35 := Fld.same W35 f33
  have N35 := Fr.snoc X35 N32 ha
  have Z35 : n0 ≤ h35.size := by rw [Wr.size W35]; exact Z32
  have K35 := Keep.wr K32 W35 (Or.inl (List.mem_of_getElem? (i := 0) rfl))
  refine Go.st (S' := T35.setTop (mkF m 73 #[.val (.ref a), .val (.ref s1), .val (.ref s1), .val (.ref s1), .val (.ref s1), .val (.ref s1), .val (.ref s1), .val (.int wv), .val (.ref s1), .val u, .val (.ref s2), .val (.ref l1), .val (.ref l2)] [])) (fun t kt => st35 t kt) ?_
  have f36 := (Exa.wr W35 f34)
  have f37 := (Fld.other W35 (Fld.other W32 (Fld.other W29 F26 (Or.inr (slot_ne (Or.inr (hw _ (List.mem_of_getElem? (i := 119) rfl))) (Or.inr (hw _ (List.mem_of_getElem? (i := 121) rfl))) (by decide) (t := (.object "com/example/imprimatur/imprimatur/config/Outcome")) (t' := (.object "java/lang/String")) (by decide) (by decide)))) (Or.inr (slot_ne (Or.inr (hw _ (List.mem_of_getElem? (i := 119) rfl))) (Or.inr (hw _ (List.mem_of_getElem? (i := 123) rfl))) (by decide) (t := (.object "com/example/imprimatur/imprimatur/config/Outcome")) (t' := (.object "java/util/List")) (by decide) (by decide)))) (Or.inr (slot_ne (Or.inr (hw _ (List.mem_of_getElem? (i := 119) rfl))) (Or.inr (hw _ (List.mem_of_getElem? (i := 125) rfl))) (by decide) (t := (.object "com/example/imprimatur/imprimatur/config/Outcome")) (t' := (.object "java/util/List")) (by decide) (by decide))))
  exact ret_v X35 hx hlk hret (hb hby d2_73) (by decide) (by decide) (by rw [e35]; exact ⟨rfl, N35, K35, f36, f37⟩)
theorem d3_0 : decode prog_2_method_2_code 0 = .ok (.aconst_null, 1) := by decide +kernel
theorem d3_1 : decode prog_2_method_2_code 1 = .ok (.aload_n 0, 1) := by decide +kernel
theorem d3_2 : decode prog_2_method_2_code 2 = .ok (.getfield 35, 3) := by decide +kernel
theorem d3_5 : decode prog_2_method_2_code 5 = .ok (.if_acmp .eq 7, 3) := by decide +kernel
theorem d3_8 : decode prog_2_method_2_code 8 = .ok (.iconst 1, 1) := by decide +kernel
theorem d3_9 : decode prog_2_method_2_code 9 = .ok (.goto 4, 3) := by decide +kernel
theorem d3_12 : decode prog_2_method_2_code 12 = .ok (.iconst 0, 1) := by decide +kernel
theorem d3_13 : decode prog_2_method_2_code 13 = .ok (.ireturn, 1) := by decide +kernel
theorem ef_rm3 (m : MethodId) (a : Addr) : entryFrame m #[(.ref a)] 1 = mkF m 0 #[.val (.ref a)] [] := by first | exact own_entry rfl | (simp [entryFrame, mkF, argsToLocals, Value.category]; done) | rfl
set_option maxRecDepth 65536 in
set_option maxHeartbeats 40000000 in
theorem rm3 (l : Launch) (Z : State) (a0 : Array Value) (hw : ∀ d ∈ tables_1, d.before a0 Z = true) (a : Addr) (u : Value) (hu : u.isRef = true) (r : Int32) (h0 : Heap) (n0 : Nat) (Z0 : n0 ≤ h0.size) (F : Fld Z h0 a "com/example/imprimatur/imprimatur/approval/ApprovalView" "outcome" "Lcom/example/imprimatur/imprimatur/config/Outcome;" u) (hr : (if u = .null then 0 else 1) = r) :
    Pays l (⟨"com/example/imprimatur/imprimatur/approval/ApprovalView", "ended", "()Z"⟩ : MethodName) prog_2_method_2_code 1 (some .boolean) ({ frames := 0, cells := 0, slots := 0, locals := 0 } : Room) Z #[(.ref a)] h0 (fun v h L => v = some (.int r) ∧ Fr n0 L ∧ h = h0) := by
  refine Pays.of (plainFor_of_name pn_com_example_imprimatur_imprimatur_approval_ApprovalView) ?_
  intro pP eE sS m below methM cC T hx hby hml hret hlk hZ hown hnm eT X
  replace hown : sS.vm.findClass "com/example/imprimatur/imprimatur/approval/ApprovalView" = some m.cls := hown
  have N0 := Fr.nil n0
  refine Go.cast (ef_rm3 m a) ?_
  refine Go.st (S' := T.setTop (mkF m 1 #[.val (.ref a)] [.null])) (fun t kt => XS.aconstNull X.here hx rfl (hb hby d3_0) kt) ?_
  refine Go.st (S' := T.setTop (mkF m 2 #[.val (.ref a)] [(.ref a), .null])) (fun t kt => XS.aloadN X.here hx rfl (hb hby d3_1) rfl rfl kt) ?_
  obtain ⟨T1, X1, e1, st1⟩ := getF X hx hZ hown (host := "") (Or.inl (hw _ (List.mem_of_getElem? (i := 118) rfl))) Via.refl eT F (g := (mkF m 2 #[.val (.ref a)] [(.ref a), .null])) rfl rfl (hb hby d3_2)
  refine Go.st (S' := T1.setTop (mkF m 5 #[.val (.ref a)] [u, .null])) (fun t kt => st1 t kt) ?_
  by_cases hn2 : u = .null
  · refine Go.st (S' := T1.setTop (mkF m 12 #[.val (.ref a)] [])) (fun t kt => XT.acmpYes X1.here hx rfl (pc0 := 5) (pc' := 12) rfl (hb hby d3_5) rfl rfl hu (XT.aa_eq_t (Eq.symm hn2)) (by decide) (by decide) kt) ?_
    refine Go.st (S' := T1.setTop (mkF m 13 #[.val (.ref a)] [(.int (0 : Int32))])) (fun t kt => XS.iconst X1.here hx rfl (hb hby d3_12) kt) ?_
    exact ret_b X1 hx hlk hret (hb hby d3_13) (by decide) (by decide) (⟨by rw [← hr]; simp [hn2] <;> rfl, N0, e1⟩)
  · refine Go.st (S' := T1.setTop (mkF m 8 #[.val (.ref a)] [])) (fun t kt => XT.acmpNo X1.here hx rfl (hb hby d3_5) rfl rfl hu (XT.aa_eq_f (Ne.symm hn2)) kt) ?_
    refine Go.st (S' := T1.setTop (mkF m 9 #[.val (.ref a)] [(.int (1 : Int32))])) (fun t kt => XS.iconst X1.here hx rfl (hb hby d3_8) kt) ?_
    refine Go.st (S' := T1.setTop (mkF m 13 #[.val (.ref a)] [(.int (1 : Int32))])) (fun t kt => XS.goto X1.here hx rfl (pc0 := 9) (pc' := 13) rfl (hb hby d3_9) (by decide) (by decide) kt) ?_
    exact ret_b X1 hx hlk hret (hb hby d3_13) (by decide) (by decide) (⟨by rw [← hr]; simp [hn2] <;> rfl, N0, e1⟩)
theorem own_mod5 (x : Int32) : (x &&& (2147483647 : Int32)) % (5 : Int32) = 0 ∨ (x &&& (2147483647 : Int32)) % (5 : Int32) = 1 ∨ (x &&& (2147483647 : Int32)) % (5 : Int32) = 2 ∨ (x &&& (2147483647 : Int32)) % (5 : Int32) = 3 ∨ (x &&& (2147483647 : Int32)) % (5 : Int32) = 4 := by
  have h := c_and x (2147483647 : Int32) (by decide)
  generalize (x &&& (2147483647 : Int32)) = y at h
  have q := (c_irem y (5 : Int32) 5 rfl).1 h.1
  generalize y % (5 : Int32) = z at q
  have e : z.toInt = 0 ∨ z.toInt = 1 ∨ z.toInt = 2 ∨ z.toInt = 3 ∨ z.toInt = 4 := by omega
  have k : ∀ w : Int32, z.toInt = w.toInt → z = w := fun w h => Int32.toInt_inj.mp h
  rcases e with e | e | e | e | e
  · exact Or.inl (k 0 e)
  · exact Or.inr (Or.inl (k 1 e))
  · exact Or.inr (Or.inr (Or.inl (k 2 e)))
  · exact Or.inr (Or.inr (Or.inr (Or.inl (k 3 e))))
  · exact Or.inr (Or.inr (Or.inr (Or.inr (k 4 e))))
theorem own_pick_nn {z : Int32} {aA aR aB aS : Addr} {u : Value} (hr : (if z = 1 then Value.ref aA else if z = 2 then Value.ref aR else if z = 3 then Value.ref aB else if z = 4 then Value.ref aS else Value.null) = u) (h0 : ¬ z = 0) (h : z = 0 ∨ z = 1 ∨ z = 2 ∨ z = 3 ∨ z = 4) : ¬ u = .null := by
  rw [← hr]
  rcases h with rfl | rfl | rfl | rfl | rfl
  · exact absurd rfl h0
  all_goals simp +decide
theorem own_char (x : Int32) : ¬ (255 : Int32) < (x &&& (255 : Int32)).toUInt32.toUInt16.toUInt32.toInt32 := by
  rw [i2c_mask]
  have h := c_and x (255 : Int32) (by decide)
  rw [Int32.lt_iff_toInt_lt]
  have : (255 : Int32).toInt = 255 := rfl
  omega
theorem pd__I_Lcom_example_imprimatur_imprimatur_config_Outcome_ : parseMethodDescriptor "(I)Lcom/example/imprimatur/imprimatur/config/Outcome;" = some ⟨[.int], some (.object "com/example/imprimatur/imprimatur/config/Outcome")⟩ := by decide +kernel
theorem pd__C_Ljava_lang_String_ : parseMethodDescriptor "(C)Ljava/lang/String;" = some ⟨[.char], some (.object "java/lang/String")⟩ := by decide +kernel
theorem pd__Ljava_lang_Object__Z : parseMethodDescriptor "(Ljava/lang/Object;)Z" = some ⟨[(.object "java/lang/Object")], some .boolean⟩ := by decide +kernel
theorem pd__Ljava_lang_String_Ljava_lang_String_Ljava_lang_String_Ljava_lang_String_Ljava_lang_String_Ljava_lang_String_ILjava_lang_String_Lcom_example_imprimatur_imprimatur_config_Outcome_Ljava_lang_String_Ljava_util_List_Ljava_util_List__V : parseMethodDescriptor "(Ljava/lang/String;Ljava/lang/String;Ljava/lang/String;Ljava/lang/String;Ljava/lang/String;Ljava/lang/String;ILjava/lang/String;Lcom/example/imprimatur/imprimatur/config/Outcome;Ljava/lang/String;Ljava/util/List;Ljava/util/List;)V" = some ⟨[(.object "java/lang/String"), (.object "java/lang/String"), (.object "java/lang/String"), (.object "java/lang/String"), (.object "java/lang/String"), (.object "java/lang/String"), .int, (.object "java/lang/String"), (.object "com/example/imprimatur/imprimatur/config/Outcome"), (.object "java/lang/String"), (.object "java/util/List"), (.object "java/util/List")], none⟩ := by decide +kernel
theorem pd___Z : parseMethodDescriptor "()Z" = some ⟨[], some .boolean⟩ := by decide +kernel
theorem ef_rm0 (m : MethodId) (p0 : Int32) (p1 : Int32) (p2 : Int32) (p3 : Int32) : entryFrame m #[(.int p0), (.int p1), (.int p2), (.int p3)] maxLocals = mkF m 0 #[.val (.int p0), .val (.int p1), .val (.int p2), .val (.int p3), .unset, .unset, .unset, .unset, .unset, .unset, .unset, .unset] [] := by first | exact own_entry rfl | (simp [entryFrame, mkF, argsToLocals, Value.category, maxLocals]; done) | rfl
set_option maxRecDepth 65536 in
set_option maxHeartbeats 40000000 in
theorem rm0 (l : Launch) (Z : State) (a0 : Array Value) (hw : ∀ d ∈ tables_1, d.before a0 Z = true) (p0 p1 p2 p3 : Int32) (h0 : Heap) (n0 : Nat) (Z0 : n0 ≤ h0.size) (aA aR aB aS : Addr) (S_aA : Sta Z h0 "com/example/imprimatur/imprimatur/config/Outcome" "APPROVED" "Lcom/example/imprimatur/imprimatur/config/Outcome;" (.ref aA)) (S_aR : Sta Z h0 "com/example/imprimatur/imprimatur/config/Outcome" "REJECTED" "Lcom/example/imprimatur/imprimatur/config/Outcome;" (.ref aR)) (S_aB : Sta Z h0 "com/example/imprimatur/imprimatur/config/Outcome" "ABORTED" "Lcom/example/imprimatur/imprimatur/config/Outcome;" (.ref aB)) (S_aS : Sta Z h0 "com/example/imprimatur/imprimatur/config/Outcome" "SUPERSEDED" "Lcom/example/imprimatur/imprimatur/config/Outcome;" (.ref aS)) (cs : Int32) (S_cs : Sta Z h0 "java/lang/String" "COMPACT_STRINGS" "Z" (.int cs)) (hcs : ¬ cs = 0) (aD : Addr) (kD : ClassId) (S_D : Sta Z h0 "java/util/ArrayList" "DEFAULTCAPACITY_EMPTY_ELEMENTDATA" "[Ljava/lang/Object;" (.ref aD)) (V_D : Arv Z h0 aD kD (.object "java/lang/Object") (0 : Int32) [] .null) :
    Pays l x code maxLocals ret room_1 Z #[(.int p0), (.int p1), (.int p2), (.int p3)] h0 (fun v h L => v = some (.int 1) ∧ Fr n0 L) := by
  refine Pays.of (plainFor_of_name pn_com_example_imprimatur_imprimatur_approval_ApprovalViewEndedPinLaw) ?_
  intro pP eE sS m below methM cC T hx hby hml hret hlk hZ hown hnm eT X
  replace hown : sS.vm.findClass "com/example/imprimatur/imprimatur/approval/ApprovalViewEndedPinLaw" = some m.cls := hown
  have N0 := Fr.nil n0
  refine Go.cast (ef_rm0 m p0 p1 p2 p3) ?_
  refine Go.st (S' := T.setTop (mkF m 1 #[.val (.int p0), .val (.int p1), .val (.int p2), .val (.int p3), .unset, .unset, .unset, .unset, .unset, .unset, .unset, .unset] [(.int p0)])) (fun t kt => XS.iloadN X.here hx rfl (hb hby at_0) rfl kt) ?_
  refine Go.st (S' := T.setTop (mkF m 3 #[.val (.int p0), .val (.int p1), .val (.int p2), .val (.int p3), .unset, .unset, .unset, .unset, .unset, .unset, .unset, .unset] [(.int (2147483647 : Int32)), (.int p0)])) (fun t kt => X.ldcI hx hown (mv hZ (hw _ (List.mem_of_getElem? (i := 0) rfl))) rfl (hb hby at_1) kt) ?_
  refine Go.st (S' := T.setTop (mkF m 4 #[.val (.int p0), .val (.int p1), .val (.int p2), .val (.int p3), .unset, .unset, .unset, .unset, .unset, .unset, .unset, .unset] [(.int (p0 &&& (2147483647 : Int32)))])) (fun t kt => XS.iand X.here hx rfl (hb hby at_3) rfl kt) ?_
  refine Go.st (S' := T.setTop (mkF m 5 #[.val (.int p0), .val (.int p1), .val (.int p2), .val (.int p3), .unset, .unset, .unset, .unset, .unset, .unset, .unset, .unset] [(.int (5 : Int32)), (.int (p0 &&& (2147483647 : Int32)))])) (fun t kt => XS.iconst X.here hx rfl (hb hby at_4) kt) ?_
  refine Go.st (S' := T.setTop (mkF m 6 #[.val (.int p0), .val (.int p1), .val (.int p2), .val (.int p3), .unset, .unset, .unset, .unset, .unset, .unset, .unset, .unset] [(.int ((p0 &&& (2147483647 : Int32)) % (5 : Int32)))])) (fun t kt => iremM X hx rfl (hb hby at_5) rfl (by decide) kt) ?_
  refine Go.st (S' := T.setTop (mkF m 8 #[.val (.int p0), .val (.int p1), .val (.int p2), .val (.int p3), .val (.int ((p0 &&& (2147483647 : Int32)) % (5 : Int32))), .unset, .unset, .unset, .unset, .unset, .unset, .unset] [])) (fun t kt => XS.istore X.here hx rfl (hb hby at_6) rfl rfl kt) ?_
  refine Go.st (S' := T.setTop (mkF m 10 #[.val (.int p0), .val (.int p1), .val (.int p2), .val (.int p3), .val (.int ((p0 &&& (2147483647 : Int32)) % (5 : Int32))), .unset, .unset, .unset, .unset, .unset, .unset, .unset] [(.int ((p0 &&& (2147483647 : Int32)) % (5 : Int32)))])) (fun t kt => XS.iload X.here hx rfl (hb hby at_8) rfl kt) ?_
  obtain ⟨u, hr⟩ : ∃ u, (if ((p0 &&& (2147483647 : Int32)) % (5 : Int32)) = 1 then Value.ref aA else if ((p0 &&& (2147483647 : Int32)) % (5 : Int32)) = 2 then Value.ref aR else if ((p0 &&& (2147483647 : Int32)) % (5 : Int32)) = 3 then Value.ref aB else if ((p0 &&& (2147483647 : Int32)) % (5 : Int32)) = 4 then Value.ref aS else Value.null) = u := ⟨_, rfl⟩
  have hu : u.isRef = true := by rw [← hr]; (repeat' split) <;> rfl
  refine Go.stat X hx hZ hown (hw _ (List.mem_of_getElem? (i := 1) rfl)) (hw _ (List.mem_of_getElem? (i := 2) rfl)) (hw _ (List.mem_of_getElem? (i := 3) rfl)) (hw _ (List.mem_of_getElem? (i := 4) rfl)) (by decide) (argsL := [(.int ((p0 &&& (2147483647 : Int32)) % (5 : Int32)))]) (rest := []) (rm1 l Z a0 hw ((p0 &&& (2147483647 : Int32)) % (5 : Int32)) aA aR aB aS u h0 n0 Z0 S_aA S_aR S_aB S_aS hr) eT rfl (by rw [hml]; rfl) pd__I_Lcom_example_imprimatur_imprimatur_config_Outcome_ rfl (hb hby at_10) 0 (Nat.le_refl _) (by decide) (by decide) (by decide) (by decide) ?_
  intro v1 T1 L1 X1 hQ1
  obtain ⟨hv1, N1', e1⟩ := hQ1
  subst hv1
  have N1 := Fr.app N0 N1'
  show Go pP eE below _ (T1.setTop (mkF m 13 #[.val (.int p0), .val (.int p1), .val (.int p2), .val (.int p3), .val (.int ((p0 &&& (2147483647 : Int32)) % (5 : Int32))), .unset, .unset, .unset, .unset, .unset, .unset, .unset] [u]))
  refine Go.st (S' := T1.setTop (mkF m 15 #[.val (.int p0), .val (.int p1), .val (.int p2), .val (.int p3), .val (.int ((p0 &&& (2147483647 : Int32)) % (5 : Int32))), .val u, .unset, .unset, .unset, .unset, .unset, .unset] [])) (fun t kt => XS.astore X1.here hx rfl (hb hby at_13) rfl hu (XS.store1 rfl (Or.inl rfl) (XT.cat1 hu)) kt) ?_
  refine Go.st (S' := T1.setTop (mkF m 16 #[.val (.int p0), .val (.int p1), .val (.int p2), .val (.int p3), .val (.int ((p0 &&& (2147483647 : Int32)) % (5 : Int32))), .val u, .unset, .unset, .unset, .unset, .unset, .unset] [(.int p2)])) (fun t kt => XS.iloadN X1.here hx rfl (hb hby at_15) rfl kt) ?_
  refine Go.st (S' := T1.setTop (mkF m 19 #[.val (.int p0), .val (.int p1), .val (.int p2), .val (.int p3), .val (.int ((p0 &&& (2147483647 : Int32)) % (5 : Int32))), .val u, .unset, .unset, .unset, .unset, .unset, .unset] [(.int (255 : Int32)), (.int p2)])) (fun t kt => XT.sipushV X1.here hx rfl (255 : Int32) (hb hby at_16) (by decide) kt) ?_
  refine Go.st (S' := T1.setTop (mkF m 20 #[.val (.int p0), .val (.int p1), .val (.int p2), .val (.int p3), .val (.int ((p0 &&& (2147483647 : Int32)) % (5 : Int32))), .val u, .unset, .unset, .unset, .unset, .unset, .unset] [(.int (p2 &&& (255 : Int32)))])) (fun t kt => XS.iand X1.here hx rfl (hb hby at_19) rfl kt) ?_
  refine Go.st (S' := T1.setTop (mkF m 21 #[.val (.int p0), .val (.int p1), .val (.int p2), .val (.int p3), .val (.int ((p0 &&& (2147483647 : Int32)) % (5 : Int32))), .val u, .unset, .unset, .unset, .unset, .unset, .unset] [(.int ((p2 &&& (255 : Int32))).toUInt32.toUInt16.toUInt32.toInt32)])) (fun t kt => XT.i2c X1.here hx rfl (hb hby at_20) rfl kt) ?_
  refine Go.stat X1 hx hZ hown (hw _ (List.mem_of_getElem? (i := 5) rfl)) (hw _ (List.mem_of_getElem? (i := 6) rfl)) (hw _ (List.mem_of_getElem? (i := 7) rfl)) (hw _ (List.mem_of_getElem? (i := 8) rfl)) (by decide) (argsL := [(.int ((p2 &&& (255 : Int32))).toUInt32.toUInt16.toUInt32.toInt32)]) (rest := []) (rmVO l Z a0 hw ((p2 &&& (255 : Int32))).toUInt32.toUInt16.toUInt32.toInt32 h0 n0 Z0 cs S_cs hcs (own_char p2)) e1 rfl (by rw [hml]; rfl) pd__C_Ljava_lang_String_ rfl (hb hby at_21) 0 (Nat.le_refl _) (by decide) (by decide) (by decide) (by decide) ?_
  intro v2 T2 L2 X2 hQ2
  obtain ⟨b2, d2, k2, hv2, N2', K2', y2_0, u2_0, y2_1, u2_1, f2_0, f2_1, f2_2, f2_3⟩ := hQ2
  subst hv2
  have N2 := Fr.app N1 N2'
  have Z2 : n0 ≤ T2.heap.size := Nat.le_trans Z0 K2'.1
  have eh2 : T2.heap = T2.heap := rfl
  show Go pP eE below _ (T2.setTop (mkF m 24 #[.val (.int p0), .val (.int p1), .val (.int p2), .val (.int p3), .val (.int ((p0 &&& (2147483647 : Int32)) % (5 : Int32))), .val u, .unset, .unset, .unset, .unset, .unset, .unset] [(.ref b2)]))
  refine Go.st (S' := T2.setTop (mkF m 26 #[.val (.int p0), .val (.int p1), .val (.int p2), .val (.int p3), .val (.int ((p0 &&& (2147483647 : Int32)) % (5 : Int32))), .val u, .val (.ref b2), .unset, .unset, .unset, .unset, .unset] [])) (fun t kt => XS.astore X2.here hx rfl (hb hby at_24) rfl rfl rfl kt) ?_
  refine Go.st (S' := T2.setTop (mkF m 27 #[.val (.int p0), .val (.int p1), .val (.int p2), .val (.int p3), .val (.int ((p0 &&& (2147483647 : Int32)) % (5 : Int32))), .val u, .val (.ref b2), .unset, .unset, .unset, .unset, .unset] [(.int p3)])) (fun t kt => XS.iloadN X2.here hx rfl (hb hby at_26) rfl kt) ?_
  refine Go.st (S' := T2.setTop (mkF m 30 #[.val (.int p0), .val (.int p1), .val (.int p2), .val (.int p3), .val (.int ((p0 &&& (2147483647 : Int32)) % (5 : Int32))), .val u, .val (.ref b2), .unset, .unset, .unset, .unset, .unset] [(.int (255 : Int32)), (.int p3)])) (fun t kt => XT.sipushV X2.here hx rfl (255 : Int32) (hb hby at_27) (by decide) kt) ?_
  refine Go.st (S' := T2.setTop (mkF m 31 #[.val (.int p0), .val (.int p1), .val (.int p2), .val (.int p3), .val (.int ((p0 &&& (2147483647 : Int32)) % (5 : Int32))), .val u, .val (.ref b2), .unset, .unset, .unset, .unset, .unset] [(.int (p3 &&& (255 : Int32)))])) (fun t kt => XS.iand X2.here hx rfl (hb hby at_30) rfl kt) ?_
  refine Go.st (S' := T2.setTop (mkF m 32 #[.val (.int p0), .val (.int p1), .val (.int p2), .val (.int p3), .val (.int ((p0 &&& (2147483647 : Int32)) % (5 : Int32))), .val u, .val (.ref b2), .unset, .unset, .unset, .unset, .unset] [(.int ((p3 &&& (255 : Int32))).toUInt32.toUInt16.toUInt32.toInt32)])) (fun t kt => XT.i2c X2.here hx rfl (hb hby at_31) rfl kt) ?_
  have f3 := (own_sta_keep S_cs K2' all0)
  refine Go.stat X2 hx hZ hown (hw _ (List.mem_of_getElem? (i := 5) rfl)) (hw _ (List.mem_of_getElem? (i := 6) rfl)) (hw _ (List.mem_of_getElem? (i := 7) rfl)) (hw _ (List.mem_of_getElem? (i := 8) rfl)) (by decide) (argsL := [(.int ((p3 &&& (255 : Int32))).toUInt32.toUInt16.toUInt32.toInt32)]) (rest := []) (rmVO l Z a0 hw ((p3 &&& (255 : Int32))).toUInt32.toUInt16.toUInt32.toInt32 T2.heap n0 Z2 cs f3 hcs (own_char p3)) eh2 rfl (by rw [hml]; rfl) pd__C_Ljava_lang_String_ rfl (hb hby at_32) 0 (Nat.le_refl _) (by decide) (by decide) (by decide) (by decide) ?_
  intro v4 T4 L4 X4 hQ4
  have f5 := (V_D.keep K2' nin0)
  obtain ⟨b4, d4, k4, hv4, N4', K4', y4_0, u4_0, y4_1, u4_1, f4_0, f4_1, f4_2, f4_3⟩ := hQ4
  subst hv4
  have N4 := Fr.app N2 N4'
  have Z4 : n0 ≤ T4.heap.size := Nat.le_trans Z2 K4'.1
  have eh4 : T4.heap = T4.heap := rfl
  show Go pP eE below _ (T4.setTop (mkF m 35 #[.val (.int p0), .val (.int p1), .val (.int p2), .val (.int p3), .val (.int ((p0 &&& (2147483647 : Int32)) % (5 : Int32))), .val u, .val (.ref b2), .unset, .unset, .unset, .unset, .unset] [(.ref b4)]))
  refine Go.st (S' := T4.setTop (mkF m 37 #[.val (.int p0), .val (.int p1), .val (.int p2), .val (.int p3), .val (.int ((p0 &&& (2147483647 : Int32)) % (5 : Int32))), .val u, .val (.ref b2), .val (.ref b4), .unset, .unset, .unset, .unset] [])) (fun t kt => XS.astore X4.here hx rfl (hb hby at_35) rfl rfl rfl kt) ?_
  obtain ⟨T6, h6, X6, e6, E6, A6, D6, -, st6⟩ := newO X4 hx hZ hown (hw _ (List.mem_of_getElem? (i := 31) rfl)) (hw _ (List.mem_of_getElem? (i := 32) rfl)) (hw _ (List.mem_of_getElem? (i := 33) rfl)) eh4 (g := (mkF m 37 #[.val (.int p0), .val (.int p1), .val (.int p2), .val (.int p3), .val (.int ((p0 &&& (2147483647 : Int32)) % (5 : Int32))), .val u, .val (.ref b2), .val (.ref b4), .unset, .unset, .unset, .unset] [])) rfl (hb hby at_37) (by decide) (by decide)
  obtain ⟨a6, g6⟩ : ∃ z, z = T4.heap.size := ⟨_, rfl⟩
  rw [← g6] at A6 D6 st6
  have Z6 : n0 ≤ h6.size := Nat.le_trans Z4 E6.1
  have f7 := (f2_0.keep K4')
  have f8 := (f5.keep K4' nin0)
  have f9 := (f2_3.keep K4' nin0)
  have F6_modCount : Fld Z h6 a6 "java/util/AbstractList" "modCount" "I" (.int (0 : Int32)) := D6 (Or.inl (hw _ (List.mem_of_getElem? (i := 51) rfl))) (ty := .int) (by decide)
  have F6_elementData : Fld Z h6 a6 "java/util/ArrayList" "elementData" "[Ljava/lang/Object;" .null := D6 (Or.inl (hw _ (List.mem_of_getElem? (i := 54) rfl))) (ty := (.array (.object "java/lang/Object"))) (by decide)
  have F6_size : Fld Z h6 a6 "java/util/ArrayList" "size" "I" (.int (0 : Int32)) := D6 (Or.inl (hw _ (List.mem_of_getElem? (i := 67) rfl))) (ty := .int) (by decide)
  refine Go.st (S' := T6.setTop (mkF m 40 #[.val (.int p0), .val (.int p1), .val (.int p2), .val (.int p3), .val (.int ((p0 &&& (2147483647 : Int32)) % (5 : Int32))), .val u, .val (.ref b2), .val (.ref b4), .unset, .unset, .unset, .unset] [(.ref a6)])) (fun t kt => st6 t kt) ?_
  refine Go.st (S' := T6.setTop (mkF m 41 #[.val (.int p0), .val (.int p1), .val (.int p2), .val (.int p3), .val (.int ((p0 &&& (2147483647 : Int32)) % (5 : Int32))), .val u, .val (.ref b2), .val (.ref b4), .unset, .unset, .unset, .unset] [(.ref a6), (.ref a6)])) (fun t kt => XS.dup X6.here hx rfl (hb hby at_40) rfl rfl kt) ?_
  have f10 := ((own_sta_keep (own_sta_keep S_D K2' all0) K4' all0).ext E6)
  refine Go.init X6 hx hZ rfl hown (hw _ (List.mem_of_getElem? (i := 34) rfl)) (hw _ (List.mem_of_getElem? (i := 35) rfl)) (hw _ (List.mem_of_getElem? (i := 36) rfl)) (hw _ (List.mem_of_getElem? (i := 33) rfl)) (by decide) (b := a6) (argsL := []) (rest := [(.ref a6)]) (rmAL l Z a0 hw a6 aD h6 n0 Z6 A6 (Nat.le_trans Z4 (Nat.le_of_eq g6.symm)) F6_modCount F6_elementData F6_size f10) e6 rfl (by rw [hml]; rfl) pd___V rfl (hb hby at_41) 1 (Nat.le_refl _) (by decide) (by decide) (by decide) (by decide) ?_
  intro v11 T11 L11 X11 hQ11
  have f12 := (f7.ext E6)
  have f13 := (f4_0.ext E6)
  have f14 := (f8.ext E6)
  have f15 := (f9.ext E6)
  have f16 := (f4_3.ext E6)
  obtain ⟨hv11, N11', K11', f11_0, f11_1, f11_2, f11_3⟩ := hQ11
  subst hv11
  have N11 := Fr.app N4 N11'
  have Z11 : n0 ≤ T11.heap.size := Nat.le_trans Z6 K11'.1
  have eh11 : T11.heap = T11.heap := rfl
  show Go pP eE below _ (T11.setTop (mkF m 44 #[.val (.int p0), .val (.int p1), .val (.int p2), .val (.int p3), .val (.int ((p0 &&& (2147483647 : Int32)) % (5 : Int32))), .val u, .val (.ref b2), .val (.ref b4), .unset, .unset, .unset, .unset] [(.ref a6)]))
  refine Go.st (S' := T11.setTop (mkF m 46 #[.val (.int p0), .val (.int p1), .val (.int p2), .val (.int p3), .val (.int ((p0 &&& (2147483647 : Int32)) % (5 : Int32))), .val u, .val (.ref b2), .val (.ref b4), .val (.ref a6), .unset, .unset, .unset] [])) (fun t kt => XS.astore X11.here hx rfl (hb hby at_44) rfl rfl rfl kt) ?_
  refine Go.st (S' := T11.setTop (mkF m 48 #[.val (.int p0), .val (.int p1), .val (.int p2), .val (.int p3), .val (.int ((p0 &&& (2147483647 : Int32)) % (5 : Int32))), .val u, .val (.ref b2), .val (.ref b4), .val (.ref a6), .unset, .unset, .unset] [(.ref a6)])) (fun t kt => XS.aload X11.here hx rfl (hb hby at_46) rfl rfl kt) ?_
  refine Go.st (S' := T11.setTop (mkF m 50 #[.val (.int p0), .val (.int p1), .val (.int p2), .val (.int p3), .val (.int ((p0 &&& (2147483647 : Int32)) % (5 : Int32))), .val u, .val (.ref b2), .val (.ref b4), .val (.ref a6), .unset, .unset, .unset] [(.ref b4), (.ref a6)])) (fun t kt => XS.aload X11.here hx rfl (hb hby at_48) rfl rfl kt) ?_
  have f17 := (own_sta_keep f10 K11' (allS (own_obj_exa A6) all0))
  have f18 := (f14.keep K11' (ninS (Nat.ne_of_lt (by rw [g6]; exact f8.lt)) nin0))
  have f19 := (f13.keep K11')
  refine Go.face X11 hx hZ hown (hw _ (List.mem_of_getElem? (i := 55) rfl)) (hw _ (List.mem_of_getElem? (i := 56) rfl)) (mvT hZ (hw _ (List.mem_of_getElem? (i := 57) rfl))) (hw _ (List.mem_of_getElem? (i := 58) rfl)) (hw _ (List.mem_of_getElem? (i := 59) rfl)) (hw _ (List.mem_of_getElem? (i := 60) rfl)) (hw _ (List.mem_of_getElem? (i := 61) rfl)) (hw _ (List.mem_of_getElem? (i := 62) rfl)) (hw _ (List.mem_of_getElem? (i := 63) rfl)) (hw _ (List.mem_of_getElem? (i := 33) rfl)) (by decide) (b := a6) (argsL := [(.ref b4)]) (rest := []) (rmA0 l Z a0 hw a6 aD b4 kD (0 : Int32) T11.heap n0 Z11 f11_0 (Nat.le_trans Z4 (Nat.le_of_eq g6.symm)) f11_1 f11_2 f11_3 f17 f18 (Nat.ne_of_lt (by rw [g6]; exact f8.lt)) f19) eh11 f11_0 rfl (by rw [hml]; rfl) pd__Ljava_lang_Object__Z rfl (hb hby at_50) 0 (Nat.le_refl _) (by decide) (by decide) (by decide) (by decide) ?_
  intro v20 T20 L20 X20 hQ20
  have f21 := (f12.keep K11')
  have f22 := (f15.keep K11' (ninS (Nat.ne_of_lt (by rw [g6]; exact f9.lt)) nin0))
  have f23 := (f16.keep K11' (ninS (Nat.ne_of_lt (by rw [g6]; exact f4_3.lt)) nin0))
  obtain ⟨e20, k20, hv20, N20', K20', y20_0, u20_0, f20_0, f20_1, f20_2, f20_3, f20_4, f20_5⟩ := hQ20
  subst hv20
  have N20 := Fr.app N11 N20'
  have Z20 : n0 ≤ T20.heap.size := Nat.le_trans Z11 K20'.1
  have eh20 : T20.heap = T20.heap := rfl
  show Go pP eE below _ (T20.setTop (mkF m 55 #[.val (.int p0), .val (.int p1), .val (.int p2), .val (.int p3), .val (.int ((p0 &&& (2147483647 : Int32)) % (5 : Int32))), .val u, .val (.ref b2), .val (.ref b4), .val (.ref a6), .unset, .unset, .unset] [(.int (1 : Int32))]))
  refine Go.st (S' := T20.setTop (mkF m 56 #[.val (.int p0), .val (.int p1), .val (.int p2), .val (.int p3), .val (.int ((p0 &&& (2147483647 : Int32)) % (5 : Int32))), .val u, .val (.ref b2), .val (.ref b4), .val (.ref a6), .unset, .unset, .unset] [])) (fun t kt => XT.pop X20.here hx rfl (hb hby at_55) rfl rfl kt) ?_
  obtain ⟨T24, h24, X24, e24, E24, A24, D24, -, st24⟩ := newO X20 hx hZ hown (hw _ (List.mem_of_getElem? (i := 31) rfl)) (hw _ (List.mem_of_getElem? (i := 32) rfl)) (hw _ (List.mem_of_getElem? (i := 33) rfl)) eh20 (g := (mkF m 56 #[.val (.int p0), .val (.int p1), .val (.int p2), .val (.int p3), .val (.int ((p0 &&& (2147483647 : Int32)) % (5 : Int32))), .val u, .val (.ref b2), .val (.ref b4), .val (.ref a6), .unset, .unset, .unset] [])) rfl (hb hby at_56) (by decide) (by decide)
  obtain ⟨a24, g24⟩ : ∃ z, z = T20.heap.size := ⟨_, rfl⟩
  rw [← g24] at A24 D24 st24
  have Z24 : n0 ≤ h24.size := Nat.le_trans Z20 E24.1
  have f25 := (f21.keep K20')
  have f26 := (f19.keep K20')
  have f27 := (f18.keep K20' (ninS (Nat.ne_of_lt (by rw [g6]; exact f8.lt)) nin0))
  have f28 := (f22.keep K20' (ninS (Nat.ne_of_lt (by rw [g6]; exact f9.lt)) nin0))
  have f29 := (f23.keep K20' (ninS (Nat.ne_of_lt (by rw [g6]; exact f4_3.lt)) nin0))
  have F24_modCount : Fld Z h24 a24 "java/util/AbstractList" "modCount" "I" (.int (0 : Int32)) := D24 (Or.inl (hw _ (List.mem_of_getElem? (i := 51) rfl))) (ty := .int) (by decide)
  have F24_elementData : Fld Z h24 a24 "java/util/ArrayList" "elementData" "[Ljava/lang/Object;" .null := D24 (Or.inl (hw _ (List.mem_of_getElem? (i := 54) rfl))) (ty := (.array (.object "java/lang/Object"))) (by decide)
  have F24_size : Fld Z h24 a24 "java/util/ArrayList" "size" "I" (.int (0 : Int32)) := D24 (Or.inl (hw _ (List.mem_of_getElem? (i := 67) rfl))) (ty := .int) (by decide)
  refine Go.st (S' := T24.setTop (mkF m 59 #[.val (.int p0), .val (.int p1), .val (.int p2), .val (.int p3), .val (.int ((p0 &&& (2147483647 : Int32)) % (5 : Int32))), .val u, .val (.ref b2), .val (.ref b4), .val (.ref a6), .unset, .unset, .unset] [(.ref a24)])) (fun t kt => st24 t kt) ?_
  refine Go.st (S' := T24.setTop (mkF m 60 #[.val (.int p0), .val (.int p1), .val (.int p2), .val (.int p3), .val (.int ((p0 &&& (2147483647 : Int32)) % (5 : Int32))), .val u, .val (.ref b2), .val (.ref b4), .val (.ref a6), .unset, .unset, .unset] [(.ref a24), (.ref a24)])) (fun t kt => XS.dup X24.here hx rfl (hb hby at_59) rfl rfl kt) ?_
  have f30 := ((own_sta_keep f17 K20' (allS (own_obj_exa f11_0) all0)).ext E24)
  refine Go.init X24 hx hZ rfl hown (hw _ (List.mem_of_getElem? (i := 34) rfl)) (hw _ (List.mem_of_getElem? (i := 35) rfl)) (hw _ (List.mem_of_getElem? (i := 36) rfl)) (hw _ (List.mem_of_getElem? (i := 33) rfl)) (by decide) (b := a24) (argsL := []) (rest := [(.ref a24)]) (rmAL l Z a0 hw a24 aD h24 n0 Z24 A24 (Nat.le_trans Z20 (Nat.le_of_eq g24.symm)) F24_modCount F24_elementData F24_size f30) e24 rfl (by rw [hml]; rfl) pd___V rfl (hb hby at_60) 1 (Nat.le_refl _) (by decide) (by decide) (by decide) (by decide) ?_
  intro v31 T31 L31 X31 hQ31
  have f32 := (f25.ext E24)
  have f33 := (f26.ext E24)
  have f34 := (f20_0.ext E24)
  have f35 := (f27.ext E24)
  have f36 := (f28.ext E24)
  have f37 := (f29.ext E24)
  have f38 := (f20_4.ext E24)
  obtain ⟨hv31, N31', K31', f31_0, f31_1, f31_2, f31_3⟩ := hQ31
  subst hv31
  have N31 := Fr.app N20 N31'
  have Z31 : n0 ≤ T31.heap.size := Nat.le_trans Z24 K31'.1
  have eh31 : T31.heap = T31.heap := rfl
  show Go pP eE below _ (T31.setTop (mkF m 63 #[.val (.int p0), .val (.int p1), .val (.int p2), .val (.int p3), .val (.int ((p0 &&& (2147483647 : Int32)) % (5 : Int32))), .val u, .val (.ref b2), .val (.ref b4), .val (.ref a6), .unset, .unset, .unset] [(.ref a24)]))
  refine Go.st (S' := T31.setTop (mkF m 65 #[.val (.int p0), .val (.int p1), .val (.int p2), .val (.int p3), .val (.int ((p0 &&& (2147483647 : Int32)) % (5 : Int32))), .val u, .val (.ref b2), .val (.ref b4), .val (.ref a6), .val (.ref a24), .unset, .unset] [])) (fun t kt => XS.astore X31.here hx rfl (hb hby at_63) rfl rfl rfl kt) ?_
  obtain ⟨T39, h39, X39, e39, E39, A39, D39, -, st39⟩ := newO X31 hx hZ hown (hw _ (List.mem_of_getElem? (i := 90) rfl)) (hw _ (List.mem_of_getElem? (i := 91) rfl)) (hw _ (List.mem_of_getElem? (i := 92) rfl)) eh31 (g := (mkF m 65 #[.val (.int p0), .val (.int p1), .val (.int p2), .val (.int p3), .val (.int ((p0 &&& (2147483647 : Int32)) % (5 : Int32))), .val u, .val (.ref b2), .val (.ref b4), .val (.ref a6), .val (.ref a24), .unset, .unset] [])) rfl (hb hby at_65) (by decide) (by decide)
  obtain ⟨a39, g39⟩ : ∃ z, z = T31.heap.size := ⟨_, rfl⟩
  rw [← g39] at A39 D39 st39
  have Z39 : n0 ≤ h39.size := Nat.le_trans Z31 E39.1
  have f40 := (f32.keep K31')
  have f41 := (f33.keep K31')
  have f42 := (f34.keep K31')
  have f43 := (f35.keep K31' (ninS (Nat.ne_of_lt (by rw [g24]; exact f27.lt)) nin0))
  have f44 := (f36.keep K31' (ninS (Nat.ne_of_lt (by rw [g24]; exact f28.lt)) nin0))
  have f45 := (f37.keep K31' (ninS (Nat.ne_of_lt (by rw [g24]; exact f29.lt)) nin0))
  have f46 := (f38.keep K31' (ninS (Nat.ne_of_lt (by rw [g24]; exact f20_4.lt)) nin0))
  have F39_id : Fld Z h39 a39 "com/example/imprimatur/imprimatur/approval/ApprovalView" "id" "Ljava/lang/String;" .null := D39 (Or.inr (hw _ (List.mem_of_getElem? (i := 103) rfl))) (ty := (.object "java/lang/String")) (by decide)
  have F39_item : Fld Z h39 a39 "com/example/imprimatur/imprimatur/approval/ApprovalView" "item" "Ljava/lang/String;" .null := D39 (Or.inr (hw _ (List.mem_of_getElem? (i := 105) rfl))) (ty := (.object "java/lang/String")) (by decide)
  have F39_type : Fld Z h39 a39 "com/example/imprimatur/imprimatur/approval/ApprovalView" "type" "Ljava/lang/String;" .null := D39 (Or.inr (hw _ (List.mem_of_getElem? (i := 107) rfl))) (ty := (.object "java/lang/String")) (by decide)
  have F39_version : Fld Z h39 a39 "com/example/imprimatur/imprimatur/approval/ApprovalView" "version" "Ljava/lang/String;" .null := D39 (Or.inr (hw _ (List.mem_of_getElem? (i := 109) rfl))) (ty := (.object "java/lang/String")) (by decide)
  have F39_language : Fld Z h39 a39 "com/example/imprimatur/imprimatur/approval/ApprovalView" "language" "Ljava/lang/String;" .null := D39 (Or.inr (hw _ (List.mem_of_getElem? (i := 111) rfl))) (ty := (.object "java/lang/String")) (by decide)
  have F39_workflow : Fld Z h39 a39 "com/example/imprimatur/imprimatur/approval/ApprovalView" "workflow" "Ljava/lang/String;" .null := D39 (Or.inr (hw _ (List.mem_of_getElem? (i := 113) rfl))) (ty := (.object "java/lang/String")) (by decide)
  have F39_workflowVersion : Fld Z h39 a39 "com/example/imprimatur/imprimatur/approval/ApprovalView" "workflowVersion" "I" (.int (0 : Int32)) := D39 (Or.inr (hw _ (List.mem_of_getElem? (i := 115) rfl))) (ty := .int) (by decide)
  have F39_state : Fld Z h39 a39 "com/example/imprimatur/imprimatur/approval/ApprovalView" "state" "Ljava/lang/String;" .null := D39 (Or.inr (hw _ (List.mem_of_getElem? (i := 117) rfl))) (ty := (.object "java/lang/String")) (by decide)
  have F39_outcome : Fld Z h39 a39 "com/example/imprimatur/imprimatur/approval/ApprovalView" "outcome" "Lcom/example/imprimatur/imprimatur/config/Outcome;" .null := D39 (Or.inr (hw _ (List.mem_of_getElem? (i := 119) rfl))) (ty := (.object "com/example/imprimatur/imprimatur/config/Outcome")) (by decide)
  have F39_submittedBy : Fld Z h39 a39 "com/example/imprimatur/imprimatur/approval/ApprovalView" "submittedBy" "Ljava/lang/String;" .null := D39 (Or.inr (hw _ (List.mem_of_getElem? (i := 121) rfl))) (ty := (.object "java/lang/String")) (by decide)
  have F39_authors : Fld Z h39 a39 "com/example/imprimatur/imprimatur/approval/ApprovalView" "authors" "Ljava/util/List;" .null := D39 (Or.inr (hw _ (List.mem_of_getElem? (i := 123) rfl))) (ty := (.object "java/util/List")) (by decide)
  have F39_transitions : Fld Z h39 a39 "com/example/imprimatur/imprimatur/approval/ApprovalView" "transitions" "Ljava/util/List;" .null := D39 (Or.inr (hw _ (List.mem_of_getElem? (i := 125) rfl))) (ty := (.object "java/util/List")) (by decide)
  refine Go.st (S' := T39.setTop (mkF m 68 #[.val (.int p0), .val (.int p1), .val (.int p2), .val (.int p3), .val (.int ((p0 &&& (2147483647 : Int32)) % (5 : Int32))), .val u, .val (.ref b2), .val (.ref b4), .val (.ref a6), .val (.ref a24), .unset, .unset] [(.ref a39)])) (fun t kt => st39 t kt) ?_
  refine Go.st (S' := T39.setTop (mkF m 69 #[.val (.int p0), .val (.int p1), .val (.int p2), .val (.int p3), .val (.int ((p0 &&& (2147483647 : Int32)) % (5 : Int32))), .val u, .val (.ref b2), .val (.ref b4), .val (.ref a6), .val (.ref a24), .unset, .unset] [(.ref a39), (.ref a39)])) (fun t kt => XS.dup X39.here hx rfl (hb hby at_68) rfl rfl kt) ?_
  refine Go.st (S' := T39.setTop (mkF m 71 #[.val (.int p0), .val (.int p1), .val (.int p2), .val (.int p3), .val (.int ((p0 &&& (2147483647 : Int32)) % (5 : Int32))), .val u, .val (.ref b2), .val (.ref b4), .val (.ref a6), .val (.ref a24), .unset, .unset] [(.ref b2), (.ref a39), (.ref a39)])) (fun t kt => XS.aload X39.here hx rfl (hb hby at_69) rfl rfl kt) ?_
  refine Go.st (S' := T39.setTop (mkF m 73 #[.val (.int p0), .val (.int p1), .val (.int p2), .val (.int p3), .val (.int ((p0 &&& (2147483647 : Int32)) % (5 : Int32))), .val u, .val (.ref b2), .val (.ref b4), .val (.ref a6), .val (.ref a24), .unset, .unset] [(.ref b2), (.ref b2), (.ref a39), (.ref a39)])) (fun t kt => XS.aload X39.here hx rfl (hb hby at_71) rfl rfl kt) ?_
  refine Go.st (S' := T39.setTop (mkF m 75 #[.val (.int p0), .val (.int p1), .val (.int p2), .val (.int p3), .val (.int ((p0 &&& (2147483647 : Int32)) % (5 : Int32))), .val u, .val (.ref b2), .val (.ref b4), .val (.ref a6), .val (.ref a24), .unset, .unset] [(.ref b2), (.ref b2), (.ref b2), (.ref a39), (.ref a39)])) (fun t kt => XS.aload X39.here hx rfl (hb hby at_73) rfl rfl kt) ?_
  refine Go.st (S' := T39.setTop (mkF m 77 #[.val (.int p0), .val (.int p1), .val (.int p2), .val (.int p3), .val (.int ((p0 &&& (2147483647 : Int32)) % (5 : Int32))), .val u, .val (.ref b2), .val (.ref b4), .val (.ref a6), .val (.ref a24), .unset, .unset] [(.ref b2), (.ref b2), (.ref b2), (.ref b2), (.ref a39), (.ref a39)])) (fun t kt => XS.aload X39.here hx rfl (hb hby at_75) rfl rfl kt) ?_
  refine Go.st (S' := T39.setTop (mkF m 79 #[.val (.int p0), .val (.int p1), .val (.int p2), .val (.int p3), .val (.int ((p0 &&& (2147483647 : Int32)) % (5 : Int32))), .val u, .val (.ref b2), .val (.ref b4), .val (.ref a6), .val (.ref a24), .unset, .unset] [(.ref b2), (.ref b2), (.ref b2), (.ref b2), (.ref b2), (.ref a39), (.ref a39)])) (fun t kt => XS.aload X39.here hx rfl (hb hby at_77) rfl rfl kt) ?_
  refine Go.st (S' := T39.setTop (mkF m 81 #[.val (.int p0), .val (.int p1), .val (.int p2), .val (.int p3), .val (.int ((p0 &&& (2147483647 : Int32)) % (5 : Int32))), .val u, .val (.ref b2), .val (.ref b4), .val (.ref a6), .val (.ref a24), .unset, .unset] [(.ref b2), (.ref b2), (.ref b2), (.ref b2), (.ref b2), (.ref b2), (.ref a39), (.ref a39)])) (fun t kt => XS.aload X39.here hx rfl (hb hby at_79) rfl rfl kt) ?_
  refine Go.st (S' := T39.setTop (mkF m 82 #[.val (.int p0), .val (.int p1), .val (.int p2), .val (.int p3), .val (.int ((p0 &&& (2147483647 : Int32)) % (5 : Int32))), .val u, .val (.ref b2), .val (.ref b4), .val (.ref a6), .val (.ref a24), .unset, .unset] [(.int p1), (.ref b2), (.ref b2), (.ref b2), (.ref b2), (.ref b2), (.ref b2), (.ref a39), (.ref a39)])) (fun t kt => XS.iloadN X39.here hx rfl (hb hby at_81) rfl kt) ?_
  refine Go.st (S' := T39.setTop (mkF m 84 #[.val (.int p0), .val (.int p1), .val (.int p2), .val (.int p3), .val (.int ((p0 &&& (2147483647 : Int32)) % (5 : Int32))), .val u, .val (.ref b2), .val (.ref b4), .val (.ref a6), .val (.ref a24), .unset, .unset] [(.ref b2), (.int p1), (.ref b2), (.ref b2), (.ref b2), (.ref b2), (.ref b2), (.ref b2), (.ref a39), (.ref a39)])) (fun t kt => XS.aload X39.here hx rfl (hb hby at_82) rfl rfl kt) ?_
  refine Go.st (S' := T39.setTop (mkF m 86 #[.val (.int p0), .val (.int p1), .val (.int p2), .val (.int p3), .val (.int ((p0 &&& (2147483647 : Int32)) % (5 : Int32))), .val u, .val (.ref b2), .val (.ref b4), .val (.ref a6), .val (.ref a24), .unset, .unset] [u, (.ref b2), (.int p1), (.ref b2), (.ref b2), (.ref b2), (.ref b2), (.ref b2), (.ref b2), (.ref a39), (.ref a39)])) (fun t kt => XS.aload X39.here hx rfl (hb hby at_84) rfl hu kt) ?_
  refine Go.st (S' := T39.setTop (mkF m 88 #[.val (.int p0), .val (.int p1), .val (.int p2), .val (.int p3), .val (.int ((p0 &&& (2147483647 : Int32)) % (5 : Int32))), .val u, .val (.ref b2), .val (.ref b4), .val (.ref a6), .val (.ref a24), .unset, .unset] [(.ref b4), u, (.ref b2), (.int p1), (.ref b2), (.ref b2), (.ref b2), (.ref b2), (.ref b2), (.ref b2), (.ref a39), (.ref a39)])) (fun t kt => XS.aload X39.here hx rfl (hb hby at_86) rfl rfl kt) ?_
  refine Go.st (S' := T39.setTop (mkF m 90 #[.val (.int p0), .val (.int p1), .val (.int p2), .val (.int p3), .val (.int ((p0 &&& (2147483647 : Int32)) % (5 : Int32))), .val u, .val (.ref b2), .val (.ref b4), .val (.ref a6), .val (.ref a24), .unset, .unset] [(.ref a6), (.ref b4), u, (.ref b2), (.int p1), (.ref b2), (.ref b2), (.ref b2), (.ref b2), (.ref b2), (.ref b2), (.ref a39), (.ref a39)])) (fun t kt => XS.aload X39.here hx rfl (hb hby at_88) rfl rfl kt) ?_
  refine Go.st (S' := T39.setTop (mkF m 92 #[.val (.int p0), .val (.int p1), .val (.int p2), .val (.int p3), .val (.int ((p0 &&& (2147483647 : Int32)) % (5 : Int32))), .val u, .val (.ref b2), .val (.ref b4), .val (.ref a6), .val (.ref a24), .unset, .unset] [(.ref a24), (.ref a6), (.ref b4), u, (.ref b2), (.int p1), (.ref b2), (.ref b2), (.ref b2), (.ref b2), (.ref b2), (.ref b2), (.ref a39), (.ref a39)])) (fun t kt => XS.aload X39.here hx rfl (hb hby at_90) rfl rfl kt) ?_
  refine Go.init X39 hx hZ rfl hown (hw _ (List.mem_of_getElem? (i := 93) rfl)) (hw _ (List.mem_of_getElem? (i := 94) rfl)) (hw _ (List.mem_of_getElem? (i := 95) rfl)) (hw _ (List.mem_of_getElem? (i := 92) rfl)) (by decide) (b := a39) (argsL := [(.ref b2), (.ref b2), (.ref b2), (.ref b2), (.ref b2), (.ref b2), (.int p1), (.ref b2), u, (.ref b4), (.ref a6), (.ref a24)]) (rest := [(.ref a39)]) (rm2 l Z a0 hw a39 b2 b4 a6 a24 p1 u hu h39 n0 Z39 A39 (Nat.le_trans Z31 (Nat.le_of_eq g39.symm)) F39_id F39_item F39_type F39_version F39_language F39_workflow F39_workflowVersion F39_state F39_outcome F39_submittedBy F39_authors F39_transitions) e39 rfl (by rw [hml]; rfl) pd__Ljava_lang_String_Ljava_lang_String_Ljava_lang_String_Ljava_lang_String_Ljava_lang_String_Ljava_lang_String_ILjava_lang_String_Lcom_example_imprimatur_imprimatur_config_Outcome_Ljava_lang_String_Ljava_util_List_Ljava_util_List__V rfl (hb hby at_92) 1 (Nat.le_refl _) (by decide) (by decide) (by decide) (by decide) ?_
  intro v47 T47 L47 X47 hQ47
  have f48 := (f40.ext E39)
  have f49 := (f41.ext E39)
  have f50 := (f42.ext E39)
  have f51 := (f31_0.ext E39)
  have f52 := (f43.ext E39)
  have f53 := (f44.ext E39)
  have f54 := (f45.ext E39)
  have f55 := (f46.ext E39)
  obtain ⟨hv47, N47', K47', f47_0, f47_1⟩ := hQ47
  subst hv47
  have N47 := Fr.app N31 N47'
  have Z47 : n0 ≤ T47.heap.size := Nat.le_trans Z39 K47'.1
  have eh47 : T47.heap = T47.heap := rfl
  show Go pP eE below _ (T47.setTop (mkF m 95 #[.val (.int p0), .val (.int p1), .val (.int p2), .val (.int p3), .val (.int ((p0 &&& (2147483647 : Int32)) % (5 : Int32))), .val u, .val (.ref b2), .val (.ref b4), .val (.ref a6), .val (.ref a24), .unset, .unset] [(.ref a39)]))
  refine Go.st (S' := T47.setTop (mkF m 97 #[.val (.int p0), .val (.int p1), .val (.int p2), .val (.int p3), .val (.int ((p0 &&& (2147483647 : Int32)) % (5 : Int32))), .val u, .val (.ref b2), .val (.ref b4), .val (.ref a6), .val (.ref a24), .val (.ref a39), .unset] [])) (fun t kt => XS.astore X47.here hx rfl (hb hby at_95) rfl rfl rfl kt) ?_
  refine Go.st (S' := T47.setTop (mkF m 99 #[.val (.int p0), .val (.int p1), .val (.int p2), .val (.int p3), .val (.int ((p0 &&& (2147483647 : Int32)) % (5 : Int32))), .val u, .val (.ref b2), .val (.ref b4), .val (.ref a6), .val (.ref a24), .val (.ref a39), .unset] [(.int ((p0 &&& (2147483647 : Int32)) % (5 : Int32)))])) (fun t kt => XS.iload X47.here hx rfl (hb hby at_97) rfl kt) ?_
  by_cases hc99_56 : ((p0 &&& (2147483647 : Int32)) % (5 : Int32)) = 0
  · refine Go.st (S' := T47.setTop (mkF m 106 #[.val (.int p0), .val (.int p1), .val (.int p2), .val (.int p3), .val (.int ((p0 &&& (2147483647 : Int32)) % (5 : Int32))), .val u, .val (.ref b2), .val (.ref b4), .val (.ref a6), .val (.ref a24), .val (.ref a39), .unset] [])) (fun t kt => XS.ifYes X47.here hx rfl (pc0 := 99) (pc' := 106) rfl (hb hby at_99) rfl (XT.i0_eq_t hc99_56) (by decide) (by decide) kt) ?_
    refine Go.st (S' := T47.setTop (mkF m 107 #[.val (.int p0), .val (.int p1), .val (.int p2), .val (.int p3), .val (.int ((p0 &&& (2147483647 : Int32)) % (5 : Int32))), .val u, .val (.ref b2), .val (.ref b4), .val (.ref a6), .val (.ref a24), .val (.ref a39), .unset] [(.int (0 : Int32))])) (fun t kt => XS.iconst X47.here hx rfl (hb hby at_106) kt) ?_
    refine Go.st (S' := T47.setTop (mkF m 109 #[.val (.int p0), .val (.int p1), .val (.int p2), .val (.int p3), .val (.int ((p0 &&& (2147483647 : Int32)) % (5 : Int32))), .val u, .val (.ref b2), .val (.ref b4), .val (.ref a6), .val (.ref a24), .val (.ref a39), .val (.int (0 : Int32))] [])) (fun t kt => XS.istore X47.here hx rfl (hb hby at_107) rfl rfl kt) ?_
    refine Go.st (S' := T47.setTop (mkF m 111 #[.val (.int p0), .val (.int p1), .val (.int p2), .val (.int p3), .val (.int ((p0 &&& (2147483647 : Int32)) % (5 : Int32))), .val u, .val (.ref b2), .val (.ref b4), .val (.ref a6), .val (.ref a24), .val (.ref a39), .val (.int (0 : Int32))] [(.ref a39)])) (fun t kt => XS.aload X47.here hx rfl (hb hby at_109) rfl rfl kt) ?_
    refine Go.virt X47 hx hZ hown (hw _ (List.mem_of_getElem? (i := 126) rfl)) (hw _ (List.mem_of_getElem? (i := 127) rfl)) (notFace_of_selects (mvT (args := #[]) hZ (hw _ (List.mem_of_getElem? (i := 129) rfl)))) (hw _ (List.mem_of_getElem? (i := 129) rfl)) (hw _ (List.mem_of_getElem? (i := 128) rfl)) (hw _ (List.mem_of_getElem? (i := 130) rfl)) (hw _ (List.mem_of_getElem? (i := 92) rfl)) (by decide) (b := a39) (argsL := []) (rest := []) (rm3 l Z a0 hw a39 u hu (0 : Int32) T47.heap n0 Z47 f47_1 (by rw [if_pos]; rw [← hr, hc99_56]; rfl)) eh47 f47_0 rfl (by rw [hml]; rfl) pd___Z rfl (hb hby at_111) 0 (Nat.le_refl _) (by decide) (by decide) (by decide) (by decide) ?_
    intro v57 T57 L57 X57 hQ57
    obtain ⟨hv57, N57', e57⟩ := hQ57
    subst hv57
    have N57 := Fr.app N47 N57'
    show Go pP eE below _ (T57.setTop (mkF m 114 #[.val (.int p0), .val (.int p1), .val (.int p2), .val (.int p3), .val (.int ((p0 &&& (2147483647 : Int32)) % (5 : Int32))), .val u, .val (.ref b2), .val (.ref b4), .val (.ref a6), .val (.ref a24), .val (.ref a39), .val (.int (0 : Int32))] [(.int (0 : Int32))]))
    refine Go.st (S' := T57.setTop (mkF m 116 #[.val (.int p0), .val (.int p1), .val (.int p2), .val (.int p3), .val (.int ((p0 &&& (2147483647 : Int32)) % (5 : Int32))), .val u, .val (.ref b2), .val (.ref b4), .val (.ref a6), .val (.ref a24), .val (.ref a39), .val (.int (0 : Int32))] [(.int (0 : Int32)), (.int (0 : Int32))])) (fun t kt => XS.iload X57.here hx rfl (hb hby at_114) rfl kt) ?_
    refine Go.st (S' := T57.setTop (mkF m 119 #[.val (.int p0), .val (.int p1), .val (.int p2), .val (.int p3), .val (.int ((p0 &&& (2147483647 : Int32)) % (5 : Int32))), .val u, .val (.ref b2), .val (.ref b4), .val (.ref a6), .val (.ref a24), .val (.ref a39), .val (.int (0 : Int32))] [])) (fun t kt => XS.icmpNo X57.here hx rfl (hb hby at_116) rfl (XT.ii_ne_f (by decide)) kt) ?_
    refine Go.st (S' := T57.setTop (mkF m 120 #[.val (.int p0), .val (.int p1), .val (.int p2), .val (.int p3), .val (.int ((p0 &&& (2147483647 : Int32)) % (5 : Int32))), .val u, .val (.ref b2), .val (.ref b4), .val (.ref a6), .val (.ref a24), .val (.ref a39), .val (.int (0 : Int32))] [(.int (1 : Int32))])) (fun t kt => XS.iconst X57.here hx rfl (hb hby at_119) kt) ?_
    refine Go.st (S' := T57.setTop (mkF m 124 #[.val (.int p0), .val (.int p1), .val (.int p2), .val (.int p3), .val (.int ((p0 &&& (2147483647 : Int32)) % (5 : Int32))), .val u, .val (.ref b2), .val (.ref b4), .val (.ref a6), .val (.ref a24), .val (.ref a39), .val (.int (0 : Int32))] [(.int (1 : Int32))])) (fun t kt => XS.goto X57.here hx rfl (pc0 := 120) (pc' := 124) rfl (hb hby at_120) (by decide) (by decide) kt) ?_
    exact ret_b X57 hx hlk hret (hb hby at_124) (by decide) (by decide) (⟨rfl, N57⟩)
  · refine Go.st (S' := T47.setTop (mkF m 102 #[.val (.int p0), .val (.int p1), .val (.int p2), .val (.int p3), .val (.int ((p0 &&& (2147483647 : Int32)) % (5 : Int32))), .val u, .val (.ref b2), .val (.ref b4), .val (.ref a6), .val (.ref a24), .val (.ref a39), .unset] [])) (fun t kt => XS.ifNo X47.here hx rfl (hb hby at_99) rfl (XT.i0_eq_f hc99_56) kt) ?_
    refine Go.st (S' := T47.setTop (mkF m 103 #[.val (.int p0), .val (.int p1), .val (.int p2), .val (.int p3), .val (.int ((p0 &&& (2147483647 : Int32)) % (5 : Int32))), .val u, .val (.ref b2), .val (.ref b4), .val (.ref a6), .val (.ref a24), .val (.ref a39), .unset] [(.int (1 : Int32))])) (fun t kt => XS.iconst X47.here hx rfl (hb hby at_102) kt) ?_
    refine Go.st (S' := T47.setTop (mkF m 107 #[.val (.int p0), .val (.int p1), .val (.int p2), .val (.int p3), .val (.int ((p0 &&& (2147483647 : Int32)) % (5 : Int32))), .val u, .val (.ref b2), .val (.ref b4), .val (.ref a6), .val (.ref a24), .val (.ref a39), .unset] [(.int (1 : Int32))])) (fun t kt => XS.goto X47.here hx rfl (pc0 := 103) (pc' := 107) rfl (hb hby at_103) (by decide) (by decide) kt) ?_
    refine Go.st (S' := T47.setTop (mkF m 109 #[.val (.int p0), .val (.int p1), .val (.int p2), .val (.int p3), .val (.int ((p0 &&& (2147483647 : Int32)) % (5 : Int32))), .val u, .val (.ref b2), .val (.ref b4), .val (.ref a6), .val (.ref a24), .val (.ref a39), .val (.int (1 : Int32))] [])) (fun t kt => XS.istore X47.here hx rfl (hb hby at_107) rfl rfl kt) ?_
    refine Go.st (S' := T47.setTop (mkF m 111 #[.val (.int p0), .val (.int p1), .val (.int p2), .val (.int p3), .val (.int ((p0 &&& (2147483647 : Int32)) % (5 : Int32))), .val u, .val (.ref b2), .val (.ref b4), .val (.ref a6), .val (.ref a24), .val (.ref a39), .val (.int (1 : Int32))] [(.ref a39)])) (fun t kt => XS.aload X47.here hx rfl (hb hby at_109) rfl rfl kt) ?_
    refine Go.virt X47 hx hZ hown (hw _ (List.mem_of_getElem? (i := 126) rfl)) (hw _ (List.mem_of_getElem? (i := 127) rfl)) (notFace_of_selects (mvT (args := #[]) hZ (hw _ (List.mem_of_getElem? (i := 129) rfl)))) (hw _ (List.mem_of_getElem? (i := 129) rfl)) (hw _ (List.mem_of_getElem? (i := 128) rfl)) (hw _ (List.mem_of_getElem? (i := 130) rfl)) (hw _ (List.mem_of_getElem? (i := 92) rfl)) (by decide) (b := a39) (argsL := []) (rest := []) (rm3 l Z a0 hw a39 u hu (1 : Int32) T47.heap n0 Z47 f47_1 (if_neg (own_pick_nn hr hc99_56 (own_mod5 p0)))) eh47 f47_0 rfl (by rw [hml]; rfl) pd___Z rfl (hb hby at_111) 0 (Nat.le_refl _) (by decide) (by decide) (by decide) (by decide) ?_
    intro v58 T58 L58 X58 hQ58
    obtain ⟨hv58, N58', e58⟩ := hQ58
    subst hv58
    have N58 := Fr.app N47 N58'
    show Go pP eE below _ (T58.setTop (mkF m 114 #[.val (.int p0), .val (.int p1), .val (.int p2), .val (.int p3), .val (.int ((p0 &&& (2147483647 : Int32)) % (5 : Int32))), .val u, .val (.ref b2), .val (.ref b4), .val (.ref a6), .val (.ref a24), .val (.ref a39), .val (.int (1 : Int32))] [(.int (1 : Int32))]))
    refine Go.st (S' := T58.setTop (mkF m 116 #[.val (.int p0), .val (.int p1), .val (.int p2), .val (.int p3), .val (.int ((p0 &&& (2147483647 : Int32)) % (5 : Int32))), .val u, .val (.ref b2), .val (.ref b4), .val (.ref a6), .val (.ref a24), .val (.ref a39), .val (.int (1 : Int32))] [(.int (1 : Int32)), (.int (1 : Int32))])) (fun t kt => XS.iload X58.here hx rfl (hb hby at_114) rfl kt) ?_
    refine Go.st (S' := T58.setTop (mkF m 119 #[.val (.int p0), .val (.int p1), .val (.int p2), .val (.int p3), .val (.int ((p0 &&& (2147483647 : Int32)) % (5 : Int32))), .val u, .val (.ref b2), .val (.ref b4), .val (.ref a6), .val (.ref a24), .val (.ref a39), .val (.int (1 : Int32))] [])) (fun t kt => XS.icmpNo X58.here hx rfl (hb hby at_116) rfl (XT.ii_ne_f (by decide)) kt) ?_
    refine Go.st (S' := T58.setTop (mkF m 120 #[.val (.int p0), .val (.int p1), .val (.int p2), .val (.int p3), .val (.int ((p0 &&& (2147483647 : Int32)) % (5 : Int32))), .val u, .val (.ref b2), .val (.ref b4), .val (.ref a6), .val (.ref a24), .val (.ref a39), .val (.int (1 : Int32))] [(.int (1 : Int32))])) (fun t kt => XS.iconst X58.here hx rfl (hb hby at_119) kt) ?_
    refine Go.st (S' := T58.setTop (mkF m 124 #[.val (.int p0), .val (.int p1), .val (.int p2), .val (.int p3), .val (.int ((p0 &&& (2147483647 : Int32)) % (5 : Int32))), .val u, .val (.ref b2), .val (.ref b4), .val (.ref a6), .val (.ref a24), .val (.ref a39), .val (.int (1 : Int32))] [(.int (1 : Int32))])) (fun t kt => XS.goto X58.here hx rfl (pc0 := 120) (pc' := 124) rfl (hb hby at_120) (by decide) (by decide) kt) ?_
    exact ret_b X58 hx hlk hret (hb hby at_124) (by decide) (by decide) (⟨rfl, N58⟩)
theorem own_arv0 {args : Array Value} {s : State} {t : Term} {a : Addr} {cl : Cell} {C : String} (hf : Fit s) (A : Arr s s.heap a cl (.object C)) (ht : t.eval args s none [] s = some (.ref a)) (h : (Jvm.Cond.eq (.length t) (.int 0)).value args s none s [] = some true) : Arv s s.heap a cl.cls (.object C) (0 : Int32) [] .null := by
  obtain ⟨v, w, h1, h2, h3, -⟩ := cmp_v (Or.inl h)
  have ha := A.fin (Vm.Alike.refl _)
  have hl : cl.slots.size < 2 ^ 31 := by
    by_cases q : cl.slots.size < 2 ^ 31
    · exact q
    · simp [Term.eval, ht, ha, q] at h1
  have e := len_f ht ha hl
  have q := gotT (own_eqI e (Term.int_eval 0)) h
  have z := len_toInt hl
  rw [q] at z
  have z0 : cl.slots.size = 0 := by
    have : (0 : Int32).toInt = 0 := rfl
    omega
  refine Arv.start hf A hl q (by decide) rfl ?_
  trivial
set_option maxRecDepth 65536 in
set_option maxHeartbeats 40000000 in
theorem comes_1 {Post : Tables → Env → Array Value → State → Outcome → State → Prop} (hpost : ∀ tb e args s v u, (limb_1_1.after args s (.returned v) u = true ∧ limb_1_2.after args s (.returned v) u = true ∧ True) → FrameEnd s (.returned v) u (Jvm.fieldLocs frame_1_writes args s ++ Jvm.arrayLocs frame_1_arrays args s ++ Jvm.staticLocs frame_1_statics s) 24 192 → Post tb e args s (.returned v) u) :
    ArmFor flags0 classFile x code maxLocals ret World_1 tables_1 room_1 Calls_1 rest_1 Pre_1 Post := by
  intro l hfl _ _ p e ha hc hk s m args below hf hA hF happ hP
  obtain ⟨hcalls, hrest, hpre⟩ := hP
  obtain ⟨-, -, -, hnamed, -, hinit0, -, hat⟩ := (Spec.applies_iff hf).mp happ
  obtain ⟨hg, hn⟩ := and_e (Cond.before_iff.mp (show (Jvm.Cond.and given_1 narrow_1).before args s = true from hpre))
  obtain ⟨hcount, hgs⟩ := and_e hg
  obtain ⟨hg0, hgs⟩ := and_e hgs
  obtain ⟨hg1, hgs⟩ := and_e hgs
  obtain ⟨hg2, hg3⟩ := and_e hgs
  obtain ⟨w0, w1, w2, w3, rfl⟩ : ∃ w0 w1 w2 w3 : Value, args = #[w0, w1, w2, w3] := by
    have hs : args.size = 4 := by simpa [Cond.value, given_1] using hcount
    obtain ⟨L⟩ := args
    match L, hs with
    | [w0, w1, w2, w3], _ => exact ⟨w0, w1, w2, w3, rfl⟩
  have hw := fun d (hd : d ∈ tables_1) => atoms_spec (ws := Jvm.Cond.code x code maxLocals ret :: tables_1) hat d (List.mem_cons_of_mem _ hd)
  have hfit : Fit s := fun {y c} hc i hi => by
    obtain ⟨ha, rfl⟩ := Array.getElem?_eq_some_iff.mp hc
    have q := List.all_eq_true.mp ((Array.all_eq_true_iff_forall_mem.mp hF) _ (Array.getElem_mem ha)) i (List.mem_range.mpr hi)
    simpa [Array.getElem?_eq_getElem hi] using q
  obtain ⟨hsets, hown0⟩ := atoms_of _ (rest_1_c_eq ▸ (show rest_1_c.before _ s = true from hrest))
  have hr0 := Cond.before_iff.mp hown0
  obtain ⟨i0, ei0⟩ := is_v hg0
  obtain rfl : w0 = (.int i0) := Option.some.inj ei0
  obtain ⟨i1, ei1⟩ := is_v hg1
  obtain rfl : w1 = (.int i1) := Option.some.inj ei1
  obtain ⟨i2, ei2⟩ := is_v hg2
  obtain rfl : w2 = (.int i2) := Option.some.inj ei2
  obtain ⟨i3, ei3⟩ := is_v hg3
  obtain rfl : w3 = (.int i3) := Option.some.inj ei3
  obtain ⟨n1, hn⟩ := and_e hn
  obtain ⟨n2, hn⟩ := and_e hn
  obtain ⟨n3, n4⟩ := and_e hn
  obtain ⟨aR, vaR⟩ := exa_v n1
  have SaR := Sta.start vaR (Or.inr ⟨(hw _ (List.mem_of_getElem? (i := 132) rfl)), (hw _ (List.mem_of_getElem? (i := 133) rfl))⟩)
  have EaR := Exa.start vaR n1
  obtain ⟨aS, vaS⟩ := exa_v n2
  have SaS := Sta.start vaS (Or.inr ⟨(hw _ (List.mem_of_getElem? (i := 132) rfl)), (hw _ (List.mem_of_getElem? (i := 135) rfl))⟩)
  have EaS := Exa.start vaS n2
  obtain ⟨aA, vaA⟩ := exa_v n3
  have SaA := Sta.start vaA (Or.inr ⟨(hw _ (List.mem_of_getElem? (i := 132) rfl)), (hw _ (List.mem_of_getElem? (i := 137) rfl))⟩)
  have EaA := Exa.start vaA n3
  obtain ⟨aB, vaB⟩ := exa_v n4
  have SaB := Sta.start vaB (Or.inr ⟨(hw _ (List.mem_of_getElem? (i := 132) rfl)), (hw _ (List.mem_of_getElem? (i := 139) rfl))⟩)
  have EaB := Exa.start vaB n4
  obtain ⟨cs, vcs⟩ := is_v (Cond.before_iff.mp (hsets _ (List.mem_of_getElem? (i := 1) rfl)))
  have S_cs := Sta.start vcs (Or.inl (hsets _ (List.mem_of_getElem? (i := 0) rfl)))
  have hcs : ¬ cs = 0 := gotF (own_eqI vcs (Term.int_eval 0)) (not_v (Cond.before_iff.mp (hsets _ (List.mem_of_getElem? (i := 2) rfl))))
  have xD := Cond.before_iff.mp (hsets _ (List.mem_of_getElem? (i := 16) rfl))
  obtain ⟨aD, vD⟩ := exa_v xD
  have S_D := Sta.start vD (Or.inr ⟨(hw _ (List.mem_of_getElem? (i := 33) rfl)), (hsets _ (List.mem_of_getElem? (i := 11) rfl))⟩)
  obtain ⟨cD, AD⟩ := Arr.start vD (Cond.before_iff.mp (hsets _ (List.mem_of_getElem? (i := 15) rfl)))
  have lD := Cond.before_iff.mp (hsets _ (List.mem_of_getElem? (i := 17) rfl))
  have V_D := own_arv0 hfit AD vD lD
  obtain ⟨n, o, h1, h2, h3, _, L, rfl, ⟨rfl, N⟩, hq⟩ := rm0 l s _ hw i0 i1 i2 i3 s.heap s.heap.size (Nat.le_refl _) aA aR aB aS SaA SaR SaB SaS cs S_cs hcs aD _ S_D V_D tables_1 p e ha hc hk s m _ below hf ((Spec.applies_iff_loose hf).mp happ).1 ⟨rfl, State.Warmed39.refl s, rfl⟩ trivial
  refine ⟨n, _, h1, h2, h3, hpost _ _ _ _ _ _ ⟨Cond.after_iff.mpr rfl, Cond.after_iff.mpr (eq_i res_at (Term.int_eval (1)) rfl), trivial⟩ ⟨hq.1, hq.2.1, (hq.2.2.sift fun y hy => Or.inr (N y hy)).mono (by decide) (by decide)⟩⟩
theorem main_1_1 : Claimed_1_1 := comes_1 fun _ _ _ _ _ _ h hF => ⟨h.1, hF⟩
theorem main_1_2 : Claimed_1_2 := comes_1 fun _ _ _ _ _ _ h hF => ⟨h.2.1, hF⟩
end Jvm.Pilot.@@N@@
namespace Jvm.Pilot.@@N@@
open Jvm Jvm.ClassFile Sem Op Lib Jvm.Free Jvm.Stand Jvm.Pilot.@@N@@.Jvm.D
/-! MADE BY PROGRAM (witnessworld.py) out of the Statement's table words and the real class files: 30 classes; the members and pool entries that the words name. The judged class is class 1, her method 2. -/
namespace start1
open Jvm.ClassFile
def u (s : String) : CpInfo := .utf8 (stringToUtf16 s)
/-- a pool by its gaps: so many unusable entries, then the entry; so many at the end -/
def gap : Nat → List CpInfo → List CpInfo
  | 0, r => r
  | n + 1, r => .unusable :: gap n r
def poolList (es : List (Nat × CpInfo)) (last : Nat) : List CpInfo := es.foldr (fun e r => gap e.1 (e.2 :: r)) (gap last [])
def pool (es : List (Nat × CpInfo)) (last : Nat) : Array CpInfo := ⟨poolList es last⟩
def fileOf (pool : Array CpInfo) (this : Nat) (attrs : Array Attribute := #[]) (ms : Array MethodInfo := #[]) (fl : Nat := 33) (sup : Nat := 0) (ifs : Array Nat := #[]) (fds : Array FieldInfo := #[]) : ClassFile where
  minorVersion := 0
  majorVersion := 65
  constantPool := pool
  accessFlags := fl
  thisClass := this
  superClass := sup
  interfaces := ifs
  fields := fds
  methods := ms
  attributes := attrs
def plain (name : String) (sup : Option ClassId) : Class where
  name := name
  kind := .ordinary
  loader := none
  accessFlags := 33
  super := sup
  interfaces := #[]
  cf := none
  fields := #[]
  methods := #[]
  instanceTypes := #[]
  staticTypes := #[]
  resolved := #[]
  callSites := []
  init := .initialized
  statics := none
  mirror := none

def pool0 : Array CpInfo := pool [(5, u "<init>"), (0, u "()V"), (1, .class_ 10), (1, u "java/lang/Object")] 113

def k0c0 : Code := { maxStack := 0, maxLocals := 1, code := object_method_1_code, exceptionTable := #[], attributes := #[] }
def k0m0 : Method := { name := "<init>", desc := "()V", sig := { parameters := [], returnType := none }, accessFlags := 1, code := some k0c0 }
/-- java/lang/Object -/
def k0 : Class := { plain "java/lang/Object" none with
  accessFlags := 33
  interfaces := #[]
  cf := some (fileOf pool0 8 #[] #[{ accessFlags := 1, nameIndex := 5, descriptorIndex := 6, attributes := #[] }] 33 0 #[] #[])
  fields := #[]
  methods := #[k0m0]
  instanceTypes := #[]
  staticTypes := #[]
  resolved := Array.replicate 124 none
  statics := none }

def pool1 : Array CpInfo := pool [(2, .class_ 4), (0, .nameAndType 5 6), (0, u "java/lang/Object"), (0, u "<init>"), (0, u "()V"), (0, .fieldref 8 9), (0, .class_ 10), (0, .nameAndType 11 12), (0, u "com/example/imprimatur/imprimatur/config/Outcome"), (0, u "APPROVED"), (0, u "Lcom/example/imprimatur/imprimatur/config/Outcome;"), (0, .fieldref 8 14), (0, .nameAndType 15 12), (0, u "REJECTED"), (0, .fieldref 8 17), (0, .nameAndType 18 12), (0, u "ABORTED"), (0, .fieldref 8 20), (0, .nameAndType 21 12), (0, u "SUPERSEDED"), (0, .integer 2147483647), (0, .methodref 24 25), (0, .class_ 26), (0, .nameAndType 27 28), (0, u "com/example/imprimatur/imprimatur/approval/ApprovalViewEndedPinLaw"), (0, u "pick"), (0, u "(I)Lcom/example/imprimatur/imprimatur/config/Outcome;"), (0, .methodref 30 31), (0, .class_ 32), (0, .nameAndType 33 34), (0, u "java/lang/String"), (0, u "valueOf"), (0, u "(C)Ljava/lang/String;"), (0, .class_ 36), (0, u "java/util/ArrayList"), (0, .methodref 35 3), (0, .interfaceMethodref 39 40), (0, .class_ 41), (0, .nameAndType 42 43), (0, u "java/util/List"), (0, u "add"), (0, u "(Ljava/lang/Object;)Z"), (0, .class_ 45), (0, u "com/example/imprimatur/imprimatur/approval/ApprovalView"), (0, .methodref 44 47), (0, .nameAndType 5 48), (0, u "(Ljava/lang/String;Ljava/lang/String;Ljava/lang/String;Ljava/lang/String;Ljava/lang/String;Ljava/lang/String;ILjava/lang/String;Lcom/example/imprimatur/imprimatur/config/Outcome;Ljava/lang/String;Ljava/util/List;Ljava/util/List;)V"), (0, .methodref 44 50), (0, .nameAndType 51 52), (0, u "ended"), (0, u "()Z"), (3, u "law"), (0, u "(IIII)Z")] 2

def k1m0 : Method := { name := "<init>", desc := "()V", sig := { parameters := [], returnType := none }, accessFlags := 1, code := none }
def k1c1 : Code := { maxStack := 2, maxLocals := 1, code := method_2_code, exceptionTable := #[], attributes := #[] }
def k1m1 : Method := { name := "pick", desc := "(I)Lcom/example/imprimatur/imprimatur/config/Outcome;", sig := { parameters := [.int], returnType := some (.object "com/example/imprimatur/imprimatur/config/Outcome") }, accessFlags := 10, code := some k1c1 }
def k1c2 : Code := { maxStack := 14, maxLocals := 12, code := code, exceptionTable := #[], attributes := #[] }
def k1m2 : Method := { name := "law", desc := "(IIII)Z", sig := { parameters := [.int, .int, .int, .int], returnType := some .boolean }, accessFlags := 9, code := some k1c2 }
/-- com/example/imprimatur/imprimatur/approval/ApprovalViewEndedPinLaw -/
def k1 : Class := { plain "com/example/imprimatur/imprimatur/approval/ApprovalViewEndedPinLaw" (some 0) with
  accessFlags := 49
  interfaces := #[]
  cf := some (fileOf pool1 24 #[] #[{ accessFlags := 1, nameIndex := 5, descriptorIndex := 6, attributes := #[] }, { accessFlags := 10, nameIndex := 27, descriptorIndex := 28, attributes := #[] }, { accessFlags := 9, nameIndex := 56, descriptorIndex := 57, attributes := #[] }] 49 2 #[] #[])
  fields := #[]
  methods := #[k1m0, k1m1, k1m2]
  instanceTypes := #[]
  staticTypes := #[]
  resolved := Array.replicate 60 none
  statics := none }

def pool2 : Array CpInfo := pool [(1, .class_ 2), (0, u "java/io/Serializable"), (0, .class_ 4), (0, u "java/lang/Object")] 2

/-- java/io/Serializable -/
def k2 : Class := { plain "java/io/Serializable" (some 0) with
  accessFlags := 1537
  interfaces := #[]
  cf := some (fileOf pool2 1 #[] #[] 1537 3 #[] #[])
  fields := #[]
  methods := #[]
  instanceTypes := #[]
  staticTypes := #[]
  resolved := Array.replicate 7 none
  statics := none }

def pool3 : Array CpInfo := pool [(1, .class_ 2), (0, u "java/lang/Comparable"), (0, .class_ 4), (0, u "java/lang/Object")] 7

/-- java/lang/Comparable -/
def k3 : Class := { plain "java/lang/Comparable" (some 0) with
  accessFlags := 1537
  interfaces := #[]
  cf := some (fileOf pool3 1 #[] #[] 1537 3 #[] #[])
  fields := #[]
  methods := #[]
  instanceTypes := #[]
  staticTypes := #[]
  resolved := Array.replicate 12 none
  statics := none }

def pool4 : Array CpInfo := pool [(2, .class_ 4), (1, u "java/lang/CharSequence"), (42, .class_ 48), (0, u "java/lang/CharSequence$1CodePointIterator"), (10, .class_ 60), (0, u "java/lang/CharSequence$1CharIterator"), (5, .class_ 67), (0, u "java/lang/Object")] 63

/-- java/lang/CharSequence -/
def k4 : Class := { plain "java/lang/CharSequence" (some 0) with
  accessFlags := 1537
  interfaces := #[]
  cf := some (fileOf pool4 2 #[.nestMembers #[47, 59]] #[] 1537 66 #[] #[])
  fields := #[]
  methods := #[]
  instanceTypes := #[]
  staticTypes := #[]
  resolved := Array.replicate 131 none
  statics := none }

def pool5 : Array CpInfo := pool [(1, .class_ 2), (0, u "java/lang/constant/Constable"), (0, .class_ 4), (0, u "java/lang/Object")] 6

/-- java/lang/constant/Constable -/
def k5 : Class := { plain "java/lang/constant/Constable" (some 0) with
  accessFlags := 1537
  interfaces := #[]
  cf := some (fileOf pool5 1 #[] #[] 1537 3 #[] #[])
  fields := #[]
  methods := #[]
  instanceTypes := #[]
  staticTypes := #[]
  resolved := Array.replicate 11 none
  statics := none }

def pool6 : Array CpInfo := pool [(1, .class_ 2), (0, u "java/lang/constant/ConstantDesc"), (0, .class_ 4), (0, u "java/lang/Object")] 32

/-- java/lang/constant/ConstantDesc -/
def k6 : Class := { plain "java/lang/constant/ConstantDesc" (some 0) with
  accessFlags := 1537
  interfaces := #[]
  cf := some (fileOf pool6 1 #[] #[] 1537 3 #[] #[])
  fields := #[]
  methods := #[]
  instanceTypes := #[]
  staticTypes := #[]
  resolved := Array.replicate 37 none
  statics := none }

def pool7 : Array CpInfo := pool [(1, .methodref 2 3), (0, .class_ 4), (0, .nameAndType 5 6), (0, u "java/lang/Object"), (0, u "<init>"), (0, u "()V"), (2, .fieldref 10 11), (0, .class_ 12), (0, .nameAndType 13 14), (0, u "java/lang/String"), (0, u "value"), (0, u "[B"), (0, .fieldref 10 16), (0, .nameAndType 17 18), (0, u "coder"), (0, u "B"), (2, u "hash"), (0, u "I"), (2, u "hashIsZero"), (0, u "Z"), (11, .fieldref 10 39), (0, .nameAndType 40 26), (0, u "COMPACT_STRINGS"), (12, u "toBytes"), (53, .class_ 109), (1, u "java/lang/StringLatin1"), (99, .methodref 10 210), (0, .nameAndType 5 211), (0, u "([BB)V"), (157, u "(C)Z"), (205, .class_ 576), (0, u "java/lang/CharSequence"), (22, u "CASE_INSENSITIVE_ORDER"), (0, u "Ljava/util/Comparator;"), (181, u "valueOf"), (0, u "(C)Ljava/lang/String;"), (231, .methodref 107 1016), (0, .nameAndType 1017 369), (0, u "canEncode"), (0, .methodref 107 1019), (0, .nameAndType 53 1020), (0, u "(C)[B"), (80, u "serialPersistentFields"), (0, u "[Ljava/io/ObjectStreamField;"), (0, .class_ 1104), (0, u "java/lang/String$CaseInsensitiveComparator"), (1, .class_ 1107), (0, u "java/io/Serializable"), (0, .class_ 1109), (0, u "java/lang/Comparable"), (0, .class_ 1111), (0, u "java/lang/constant/Constable"), (0, .class_ 1113), (0, u "java/lang/constant/ConstantDesc"), (2, u "serialVersionUID"), (0, u "J"), (3, u "REPL"), (0, u "C"), (2, u "LATIN1"), (1, u "UTF16")] 323

def k7m0 : Method := { name := "<init>", desc := "()V", sig := { parameters := [], returnType := none }, accessFlags := 1, code := none }
def k7c1 : Code := { maxStack := 4, maxLocals := 1, code := jdk_42_method_139_code, exceptionTable := #[], attributes := #[] }
def k7m1 : Method := { name := "valueOf", desc := "(C)Ljava/lang/String;", sig := { parameters := [.char], returnType := some (.object "java/lang/String") }, accessFlags := 9, code := some k7c1 }
def k7c2 : Code := { maxStack := 2, maxLocals := 3, code := jdk_42_method_151_code, exceptionTable := #[], attributes := #[] }
def k7m2 : Method := { name := "<init>", desc := "([BB)V", sig := { parameters := [(.array .byte), .byte], returnType := none }, accessFlags := 0, code := some k7c2 }
/-- java/lang/String -/
def k7 : Class := { plain "java/lang/String" (some 0) with
  accessFlags := 49
  interfaces := #[2, 3, 4, 5, 6]
  cf := some (fileOf pool7 10 #[.nestMembers #[1103]] #[{ accessFlags := 1, nameIndex := 5, descriptorIndex := 6, attributes := #[] }, { accessFlags := 9, nameIndex := 782, descriptorIndex := 783, attributes := #[] }, { accessFlags := 0, nameIndex := 5, descriptorIndex := 211, attributes := #[] }] 49 2 #[1106, 1108, 575, 1110, 1112] #[{ accessFlags := 18, nameIndex := 13, descriptorIndex := 14, attributes := #[] }, { accessFlags := 18, nameIndex := 17, descriptorIndex := 18, attributes := #[] }, { accessFlags := 2, nameIndex := 21, descriptorIndex := 22, attributes := #[] }, { accessFlags := 2, nameIndex := 25, descriptorIndex := 26, attributes := #[] }, { accessFlags := 26, nameIndex := 1116, descriptorIndex := 1117, attributes := #[] }, { accessFlags := 24, nameIndex := 40, descriptorIndex := 26, attributes := #[] }, { accessFlags := 26, nameIndex := 1101, descriptorIndex := 1102, attributes := #[] }, { accessFlags := 26, nameIndex := 1121, descriptorIndex := 1122, attributes := #[] }, { accessFlags := 25, nameIndex := 599, descriptorIndex := 600, attributes := #[] }, { accessFlags := 24, nameIndex := 1125, descriptorIndex := 18, attributes := #[] }, { accessFlags := 24, nameIndex := 1127, descriptorIndex := 18, attributes := #[] }])
  fields := #[{ name := "value", type := (.array .byte), accessFlags := 18, slot := 0, constantValue := 0 }, { name := "coder", type := .byte, accessFlags := 18, slot := 1, constantValue := 0 }, { name := "hash", type := .int, accessFlags := 2, slot := 2, constantValue := 0 }, { name := "hashIsZero", type := .boolean, accessFlags := 2, slot := 3, constantValue := 0 }, { name := "serialVersionUID", type := .long, accessFlags := 26, slot := 0, constantValue := 0 }, { name := "COMPACT_STRINGS", type := .boolean, accessFlags := 24, slot := 1, constantValue := 0 }, { name := "serialPersistentFields", type := (.array (.object "java/io/ObjectStreamField")), accessFlags := 26, slot := 2, constantValue := 0 }, { name := "REPL", type := .char, accessFlags := 26, slot := 3, constantValue := 0 }, { name := "CASE_INSENSITIVE_ORDER", type := (.object "java/util/Comparator"), accessFlags := 25, slot := 4, constantValue := 0 }, { name := "LATIN1", type := .byte, accessFlags := 24, slot := 5, constantValue := 0 }, { name := "UTF16", type := .byte, accessFlags := 24, slot := 6, constantValue := 0 }]
  methods := #[k7m0, k7m1, k7m2]
  instanceTypes := #[(.array .byte), .byte, .int, .boolean]
  staticTypes := #[.long, .boolean, (.array (.object "java/io/ObjectStreamField")), .char, (.object "java/util/Comparator"), .byte, .byte]
  resolved := Array.replicate 1451 none
  statics := some 0 }

def pool8 : Array CpInfo := pool [(4, .class_ 6), (1, u "java/lang/Object"), (0, u "<init>"), (0, u "()V"), (5, .class_ 16), (1, u "java/lang/StringLatin1"), (73, u "canEncode"), (14, u "(C)Z"), (15, u "$assertionsDisabled"), (0, u "Z"), (98, .class_ 223), (1, u "java/lang/StringLatin1$LinesSpliterator"), (156, u "toBytes"), (1, u "(C)[B"), (7, .class_ 391), (0, u "java/lang/StringLatin1$CharsSpliterator")] 3

def k8m0 : Method := { name := "<init>", desc := "()V", sig := { parameters := [], returnType := none }, accessFlags := 0, code := none }
def k8c1 : Code := { maxStack := 2, maxLocals := 1, code := jdk_43_method_3_code, exceptionTable := #[], attributes := #[] }
def k8m1 : Method := { name := "canEncode", desc := "(C)Z", sig := { parameters := [.char], returnType := some .boolean }, accessFlags := 9, code := some k8c1 }
def k8c2 : Code := { maxStack := 4, maxLocals := 1, code := jdk_43_method_46_code, exceptionTable := #[], attributes := #[] }
def k8m2 : Method := { name := "toBytes", desc := "(C)[B", sig := { parameters := [.char], returnType := some (.array .byte) }, accessFlags := 9, code := some k8c2 }
/-- java/lang/StringLatin1 -/
def k8 : Class := { plain "java/lang/StringLatin1" (some 0) with
  accessFlags := 48
  interfaces := #[]
  cf := some (fileOf pool8 14 #[.nestMembers #[390, 221]] #[{ accessFlags := 0, nameIndex := 7, descriptorIndex := 8, attributes := #[] }, { accessFlags := 9, nameIndex := 90, descriptorIndex := 105, attributes := #[] }, { accessFlags := 9, nameIndex := 380, descriptorIndex := 382, attributes := #[] }] 48 4 #[] #[{ accessFlags := 4120, nameIndex := 121, descriptorIndex := 122, attributes := #[] }])
  fields := #[{ name := "$assertionsDisabled", type := .boolean, accessFlags := 4120, slot := 0, constantValue := 0 }]
  methods := #[k8m0, k8m1, k8m2]
  instanceTypes := #[]
  staticTypes := #[.boolean]
  resolved := Array.replicate 395 none
  statics := none }

def pool9 : Array CpInfo := pool [(8, .class_ 10), (1, u "java/lang/Iterable"), (24, .class_ 36), (0, u "java/lang/Object")] 25

/-- java/lang/Iterable -/
def k9 : Class := { plain "java/lang/Iterable" (some 0) with
  accessFlags := 1537
  interfaces := #[]
  cf := some (fileOf pool9 8 #[] #[] 1537 35 #[] #[])
  fields := #[]
  methods := #[]
  instanceTypes := #[]
  staticTypes := #[]
  resolved := Array.replicate 62 none
  statics := none }

def pool10 : Array CpInfo := pool [(10, .class_ 12), (1, u "java/util/Collection"), (47, .class_ 61), (0, u "java/lang/Object"), (0, .class_ 63), (0, u "java/lang/Iterable")] 51

/-- java/util/Collection -/
def k10 : Class := { plain "java/util/Collection" (some 0) with
  accessFlags := 1537
  interfaces := #[9]
  cf := some (fileOf pool10 10 #[] #[] 1537 60 #[62] #[])
  fields := #[]
  methods := #[]
  instanceTypes := #[]
  staticTypes := #[]
  resolved := Array.replicate 115 none
  statics := none }

def pool11 : Array CpInfo := pool [(1, .methodref 2 3), (0, .class_ 4), (0, .nameAndType 5 6), (0, u "java/lang/Object"), (0, u "<init>"), (0, u "()V"), (1, .class_ 10), (1, u "java/util/AbstractCollection"), (66, .class_ 78), (0, u "java/util/Collection")] 81

def k11c0 : Code := { maxStack := 1, maxLocals := 1, code := jdk_22_method_1_code, exceptionTable := #[], attributes := #[] }
def k11m0 : Method := { name := "<init>", desc := "()V", sig := { parameters := [], returnType := none }, accessFlags := 4, code := some k11c0 }
/-- java/util/AbstractCollection -/
def k11 : Class := { plain "java/util/AbstractCollection" (some 0) with
  accessFlags := 1057
  interfaces := #[10]
  cf := some (fileOf pool11 8 #[] #[{ accessFlags := 4, nameIndex := 5, descriptorIndex := 6, attributes := #[] }] 1057 2 #[77] #[])
  fields := #[]
  methods := #[k11m0]
  instanceTypes := #[]
  staticTypes := #[]
  resolved := Array.replicate 160 none
  statics := none }

def pool12 : Array CpInfo := pool [(8, .class_ 10), (1, u "java/util/SequencedCollection"), (15, .class_ 27), (0, u "java/lang/Object"), (0, .class_ 29), (0, u "java/util/Collection")] 27

/-- java/util/SequencedCollection -/
def k12 : Class := { plain "java/util/SequencedCollection" (some 0) with
  accessFlags := 1537
  interfaces := #[10]
  cf := some (fileOf pool12 8 #[] #[] 1537 26 #[28] #[])
  fields := #[]
  methods := #[]
  instanceTypes := #[]
  staticTypes := #[]
  resolved := Array.replicate 57 none
  statics := none }

def pool13 : Array CpInfo := pool [(8, .class_ 10), (1, u "java/util/List"), (49, u "add"), (3, u "(Ljava/lang/Object;)Z"), (38, .class_ 104), (0, u "java/lang/Object"), (15, .class_ 121), (0, u "java/util/SequencedCollection")] 129

def k13m0 : Method := { name := "add", desc := "(Ljava/lang/Object;)Z", sig := { parameters := [(.object "java/lang/Object")], returnType := some .boolean }, accessFlags := 1025, code := none }
/-- java/util/List -/
def k13 : Class := { plain "java/util/List" (some 0) with
  accessFlags := 1537
  interfaces := #[12]
  cf := some (fileOf pool13 8 #[] #[{ accessFlags := 1025, nameIndex := 60, descriptorIndex := 64, attributes := #[] }] 1537 103 #[120] #[])
  fields := #[]
  methods := #[k13m0]
  instanceTypes := #[]
  staticTypes := #[]
  resolved := Array.replicate 251 none
  statics := none }

def pool14 : Array CpInfo := pool [(1, .methodref 2 3), (0, .class_ 4), (0, .nameAndType 5 6), (0, u "java/util/AbstractCollection"), (0, u "<init>"), (0, u "()V"), (0, .fieldref 8 9), (0, .class_ 10), (0, .nameAndType 11 12), (0, u "java/util/AbstractList"), (0, u "modCount"), (0, u "I"), (64, .class_ 78), (0, u "java/util/AbstractList$Itr"), (3, .class_ 83), (0, u "java/util/AbstractList$ListItr"), (9, .class_ 94), (0, u "java/util/AbstractList$RandomAccessSubList"), (3, .class_ 99), (0, u "java/util/AbstractList$SubList"), (33, .class_ 134), (0, u "java/util/List"), (73, .class_ 209), (0, u "java/util/AbstractList$SubList$1"), (0, .class_ 211), (0, u "java/util/AbstractList$RandomAccessSpliterator")] 6

def k14c0 : Code := { maxStack := 2, maxLocals := 1, code := jdk_39_method_1_code, exceptionTable := #[], attributes := #[] }
def k14m0 : Method := { name := "<init>", desc := "()V", sig := { parameters := [], returnType := none }, accessFlags := 4, code := some k14c0 }
/-- java/util/AbstractList -/
def k14 : Class := { plain "java/util/AbstractList" (some 11) with
  accessFlags := 1057
  interfaces := #[13]
  cf := some (fileOf pool14 8 #[.nestMembers #[93, 98, 208, 210, 82, 77]] #[{ accessFlags := 4, nameIndex := 5, descriptorIndex := 6, attributes := #[] }] 1057 2 #[133] #[{ accessFlags := 132, nameIndex := 11, descriptorIndex := 12, attributes := #[] }])
  fields := #[{ name := "modCount", type := .int, accessFlags := 132, slot := 0, constantValue := 0 }]
  methods := #[k14m0]
  instanceTypes := #[.int]
  staticTypes := #[]
  resolved := Array.replicate 218 none
  statics := none }

def pool15 : Array CpInfo := pool [(1, .class_ 2), (0, u "java/util/RandomAccess"), (0, .class_ 4), (0, u "java/lang/Object")] 2

/-- java/util/RandomAccess -/
def k15 : Class := { plain "java/util/RandomAccess" (some 0) with
  accessFlags := 1537
  interfaces := #[]
  cf := some (fileOf pool15 1 #[] #[] 1537 3 #[] #[])
  fields := #[]
  methods := #[]
  instanceTypes := #[]
  staticTypes := #[]
  resolved := Array.replicate 7 none
  statics := none }

def pool16 : Array CpInfo := pool [(1, .class_ 2), (0, u "java/lang/Cloneable"), (0, .class_ 4), (0, u "java/lang/Object")] 2

/-- java/lang/Cloneable -/
def k16 : Class := { plain "java/lang/Cloneable" (some 0) with
  accessFlags := 1537
  interfaces := #[]
  cf := some (fileOf pool16 1 #[] #[] 1537 3 #[] #[])
  fields := #[]
  methods := #[]
  instanceTypes := #[]
  staticTypes := #[]
  resolved := Array.replicate 7 none
  statics := none }

def pool17 : Array CpInfo := pool [(1, .methodref 2 3), (0, .class_ 4), (0, .nameAndType 5 6), (0, u "java/util/AbstractList"), (0, u "<init>"), (0, u "()V"), (0, .class_ 8), (0, u "java/lang/Object"), (0, .fieldref 10 11), (0, .class_ 12), (0, .nameAndType 13 14), (0, u "java/util/ArrayList"), (0, u "elementData"), (0, u "[Ljava/lang/Object;"), (2, u "EMPTY_ELEMENTDATA"), (21, .fieldref 10 40), (0, .nameAndType 41 14), (0, u "DEFAULTCAPACITY_EMPTY_ELEMENTDATA"), (5, u "()[Ljava/lang/Object;"), (0, .fieldref 10 49), (0, .nameAndType 50 51), (0, u "size"), (0, u "I"), (11, .fieldref 10 64), (0, .nameAndType 65 51), (0, u "modCount"), (3, .methodref 10 70), (0, .nameAndType 71 72), (0, u "grow"), (0, u "(I)[Ljava/lang/Object;"), (6, .methodref 80 81), (0, .class_ 82), (0, .nameAndType 83 84), (0, u "java/lang/Math"), (0, u "max"), (0, u "(II)I"), (11, u "(Ljava/lang/Object;)Z"), (32, .methodref 10 130), (0, .nameAndType 71 47), (0, .methodref 10 132), (0, .nameAndType 133 134), (0, u "add"), (0, u "(Ljava/lang/Object;[Ljava/lang/Object;I)V"), (13, .class_ 149), (0, u "java/util/List"), (112, .class_ 263), (0, u "java/util/ArrayList$ListItr"), (3, .class_ 268), (0, u "java/util/ArrayList$Itr"), (7, .class_ 277), (0, u "java/util/ArrayList$SubList"), (12, .class_ 291), (0, u "java/util/ArrayList$ArrayListSpliterator"), (37, .class_ 330), (0, u "java/util/RandomAccess"), (0, .class_ 332), (0, u "java/lang/Cloneable"), (0, .class_ 334), (0, u "java/io/Serializable"), (0, u "serialVersionUID"), (0, u "J"), (3, u "DEFAULT_CAPACITY"), (159, .class_ 501), (0, u "java/util/ArrayList$SubList$2"), (0, .class_ 503), (0, u "java/util/ArrayList$SubList$1")] 5

def k17c0 : Code := { maxStack := 2, maxLocals := 1, code := jdk_38_method_2_code, exceptionTable := #[], attributes := #[] }
def k17m0 : Method := { name := "<init>", desc := "()V", sig := { parameters := [], returnType := none }, accessFlags := 1, code := some k17c0 }
def k17c1 : Code := { maxStack := 4, maxLocals := 4, code := jdk_38_method_6_code, exceptionTable := #[], attributes := #[] }
def k17m1 : Method := { name := "grow", desc := "(I)[Ljava/lang/Object;", sig := { parameters := [.int], returnType := some (.array (.object "java/lang/Object")) }, accessFlags := 2, code := some k17c1 }
def k17c2 : Code := { maxStack := 3, maxLocals := 1, code := jdk_38_method_7_code, exceptionTable := #[], attributes := #[] }
def k17m2 : Method := { name := "grow", desc := "()[Ljava/lang/Object;", sig := { parameters := [], returnType := some (.array (.object "java/lang/Object")) }, accessFlags := 2, code := some k17c2 }
def k17c3 : Code := { maxStack := 3, maxLocals := 4, code := jdk_38_method_24_code, exceptionTable := #[], attributes := #[] }
def k17m3 : Method := { name := "add", desc := "(Ljava/lang/Object;[Ljava/lang/Object;I)V", sig := { parameters := [(.object "java/lang/Object"), (.array (.object "java/lang/Object")), .int], returnType := none }, accessFlags := 2, code := some k17c3 }
def k17c4 : Code := { maxStack := 4, maxLocals := 2, code := jdk_38_method_25_code, exceptionTable := #[], attributes := #[] }
def k17m4 : Method := { name := "add", desc := "(Ljava/lang/Object;)Z", sig := { parameters := [(.object "java/lang/Object")], returnType := some .boolean }, accessFlags := 1, code := some k17c4 }
/-- java/util/ArrayList -/
def k17 : Class := { plain "java/util/ArrayList" (some 14) with
  accessFlags := 33
  interfaces := #[13, 15, 16, 2]
  cf := some (fileOf pool17 10 #[.nestMembers #[290, 276, 500, 502, 262, 267]] #[{ accessFlags := 1, nameIndex := 5, descriptorIndex := 6, attributes := #[] }, { accessFlags := 2, nameIndex := 71, descriptorIndex := 72, attributes := #[] }, { accessFlags := 2, nameIndex := 71, descriptorIndex := 47, attributes := #[] }, { accessFlags := 2, nameIndex := 133, descriptorIndex := 134, attributes := #[] }, { accessFlags := 1, nameIndex := 133, descriptorIndex := 96, attributes := #[] }] 33 2 #[148, 329, 331, 333] #[{ accessFlags := 26, nameIndex := 335, descriptorIndex := 336, attributes := #[] }, { accessFlags := 26, nameIndex := 340, descriptorIndex := 51, attributes := #[] }, { accessFlags := 26, nameIndex := 17, descriptorIndex := 14, attributes := #[] }, { accessFlags := 26, nameIndex := 41, descriptorIndex := 14, attributes := #[] }, { accessFlags := 128, nameIndex := 13, descriptorIndex := 14, attributes := #[] }, { accessFlags := 2, nameIndex := 50, descriptorIndex := 51, attributes := #[] }])
  fields := #[{ name := "serialVersionUID", type := .long, accessFlags := 26, slot := 0, constantValue := 0 }, { name := "DEFAULT_CAPACITY", type := .int, accessFlags := 26, slot := 1, constantValue := 0 }, { name := "EMPTY_ELEMENTDATA", type := (.array (.object "java/lang/Object")), accessFlags := 26, slot := 2, constantValue := 0 }, { name := "DEFAULTCAPACITY_EMPTY_ELEMENTDATA", type := (.array (.object "java/lang/Object")), accessFlags := 26, slot := 3, constantValue := 0 }, { name := "elementData", type := (.array (.object "java/lang/Object")), accessFlags := 128, slot := 1, constantValue := 0 }, { name := "size", type := .int, accessFlags := 2, slot := 2, constantValue := 0 }]
  methods := #[k17m0, k17m1, k17m2, k17m3, k17m4]
  instanceTypes := #[.int, (.array (.object "java/lang/Object")), .int]
  staticTypes := #[.long, .int, (.array (.object "java/lang/Object")), (.array (.object "java/lang/Object"))]
  resolved := Array.replicate 509 none
  statics := some 1 }

def pool18 : Array CpInfo := pool [(1, .class_ 2), (0, u "java/lang/Math"), (1, .class_ 6), (1, u "java/lang/Object"), (0, u "<init>"), (0, u "()V"), (89, .class_ 100), (1, u "java/lang/Math$RandomNumberGeneratorHolder"), (71, u "negativeZeroFloatBits"), (0, u "J"), (2, u "negativeZeroDoubleBits"), (21, u "max"), (46, u "$assertionsDisabled"), (0, u "Z"), (88, u "(II)I"), (2, u "twoToTheDoubleScaleDown"), (0, u "D"), (4, u "twoToTheDoubleScaleUp"), (9, u "E"), (3, u "PI"), (2, u "TAU"), (2, u "DEGREES_TO_RADIANS"), (0, u "RADIANS_TO_DEGREES")] 94

def k18m0 : Method := { name := "<init>", desc := "()V", sig := { parameters := [], returnType := none }, accessFlags := 2, code := none }
def k18c1 : Code := { maxStack := 2, maxLocals := 2, code := jdk_29_method_65_code, exceptionTable := #[], attributes := #[] }
def k18m1 : Method := { name := "max", desc := "(II)I", sig := { parameters := [.int, .int], returnType := some .int }, accessFlags := 9, code := some k18c1 }
/-- java/lang/Math -/
def k18 : Class := { plain "java/lang/Math" (some 0) with
  accessFlags := 49
  interfaces := #[]
  cf := some (fileOf pool18 1 #[.nestMembers #[98]] #[{ accessFlags := 2, nameIndex := 7, descriptorIndex := 8, attributes := #[] }, { accessFlags := 9, nameIndex := 198, descriptorIndex := 335, attributes := #[] }] 49 4 #[] #[{ accessFlags := 25, nameIndex := 354, descriptorIndex := 339, attributes := #[] }, { accessFlags := 25, nameIndex := 358, descriptorIndex := 339, attributes := #[] }, { accessFlags := 25, nameIndex := 361, descriptorIndex := 339, attributes := #[] }, { accessFlags := 26, nameIndex := 364, descriptorIndex := 339, attributes := #[] }, { accessFlags := 26, nameIndex := 365, descriptorIndex := 339, attributes := #[] }, { accessFlags := 26, nameIndex := 172, descriptorIndex := 173, attributes := #[] }, { accessFlags := 26, nameIndex := 176, descriptorIndex := 173, attributes := #[] }, { accessFlags := 8, nameIndex := 344, descriptorIndex := 339, attributes := #[] }, { accessFlags := 8, nameIndex := 338, descriptorIndex := 339, attributes := #[] }, { accessFlags := 4120, nameIndex := 245, descriptorIndex := 246, attributes := #[] }])
  fields := #[{ name := "E", type := .double, accessFlags := 25, slot := 0, constantValue := 0 }, { name := "PI", type := .double, accessFlags := 25, slot := 1, constantValue := 0 }, { name := "TAU", type := .double, accessFlags := 25, slot := 2, constantValue := 0 }, { name := "DEGREES_TO_RADIANS", type := .double, accessFlags := 26, slot := 3, constantValue := 0 }, { name := "RADIANS_TO_DEGREES", type := .double, accessFlags := 26, slot := 4, constantValue := 0 }, { name := "negativeZeroFloatBits", type := .long, accessFlags := 26, slot := 5, constantValue := 0 }, { name := "negativeZeroDoubleBits", type := .long, accessFlags := 26, slot := 6, constantValue := 0 }, { name := "twoToTheDoubleScaleUp", type := .double, accessFlags := 8, slot := 7, constantValue := 0 }, { name := "twoToTheDoubleScaleDown", type := .double, accessFlags := 8, slot := 8, constantValue := 0 }, { name := "$assertionsDisabled", type := .boolean, accessFlags := 4120, slot := 9, constantValue := 0 }]
  methods := #[k18m0, k18m1]
  instanceTypes := #[]
  staticTypes := #[.double, .double, .double, .double, .double, .long, .long, .double, .double, .boolean]
  resolved := Array.replicate 460 none
  statics := none }

def pool19 : Array CpInfo := pool [(1, .methodref 2 3), (0, .class_ 4), (0, .nameAndType 5 6), (0, u "java/lang/Object"), (0, u "<init>"), (0, u "()V"), (0, .class_ 8), (0, u "java/lang/Record")] 13

def k19c0 : Code := { maxStack := 1, maxLocals := 1, code := jdk_30_method_1_code, exceptionTable := #[], attributes := #[] }
def k19m0 : Method := { name := "<init>", desc := "()V", sig := { parameters := [], returnType := none }, accessFlags := 4, code := some k19c0 }
/-- java/lang/Record -/
def k19 : Class := { plain "java/lang/Record" (some 0) with
  accessFlags := 1057
  interfaces := #[]
  cf := some (fileOf pool19 7 #[] #[{ accessFlags := 4, nameIndex := 5, descriptorIndex := 6, attributes := #[] }] 1057 2 #[] #[])
  fields := #[]
  methods := #[k19m0]
  instanceTypes := #[]
  staticTypes := #[]
  resolved := Array.replicate 22 none
  statics := none }

def pool20 : Array CpInfo := pool [(1, .methodref 2 3), (0, .class_ 4), (0, .nameAndType 5 6), (0, u "java/lang/Record"), (0, u "<init>"), (0, u "()V"), (0, .fieldref 8 9), (0, .class_ 10), (0, .nameAndType 11 12), (0, u "com/example/imprimatur/imprimatur/approval/ApprovalView"), (0, u "id"), (0, u "Ljava/lang/String;"), (0, .fieldref 8 14), (0, .nameAndType 15 12), (0, u "item"), (0, .fieldref 8 17), (0, .nameAndType 18 12), (0, u "type"), (0, .fieldref 8 20), (0, .nameAndType 21 12), (0, u "version"), (0, .fieldref 8 23), (0, .nameAndType 24 12), (0, u "language"), (0, .fieldref 8 26), (0, .nameAndType 27 12), (0, u "workflow"), (0, .fieldref 8 29), (0, .nameAndType 30 31), (0, u "workflowVersion"), (0, u "I"), (0, .fieldref 8 33), (0, .nameAndType 34 12), (0, u "state"), (0, .fieldref 8 36), (0, .nameAndType 37 38), (0, u "outcome"), (0, u "Lcom/example/imprimatur/imprimatur/config/Outcome;"), (0, .fieldref 8 40), (0, .nameAndType 41 12), (0, u "submittedBy"), (0, .fieldref 8 43), (0, .nameAndType 44 45), (0, u "authors"), (0, u "Ljava/util/List;"), (0, .fieldref 8 47), (0, .nameAndType 48 45), (0, u "transitions"), (15, u "(Ljava/lang/String;Ljava/lang/String;Ljava/lang/String;Ljava/lang/String;Ljava/lang/String;Ljava/lang/String;ILjava/lang/String;Lcom/example/imprimatur/imprimatur/config/Outcome;Ljava/lang/String;Ljava/util/List;Ljava/util/List;)V"), (4, u "ended"), (0, u "()Z"), (11, .class_ 83), (0, u "com/example/imprimatur/imprimatur/approval/ApprovalView$TransitionView")] 30

def k20c0 : Code := { maxStack := 2, maxLocals := 13, code := prog_2_method_1_code, exceptionTable := #[], attributes := #[] }
def k20m0 : Method := { name := "<init>", desc := "(Ljava/lang/String;Ljava/lang/String;Ljava/lang/String;Ljava/lang/String;Ljava/lang/String;Ljava/lang/String;ILjava/lang/String;Lcom/example/imprimatur/imprimatur/config/Outcome;Ljava/lang/String;Ljava/util/List;Ljava/util/List;)V", sig := { parameters := [(.object "java/lang/String"), (.object "java/lang/String"), (.object "java/lang/String"), (.object "java/lang/String"), (.object "java/lang/String"), (.object "java/lang/String"), .int, (.object "java/lang/String"), (.object "com/example/imprimatur/imprimatur/config/Outcome"), (.object "java/lang/String"), (.object "java/util/List"), (.object "java/util/List")], returnType := none }, accessFlags := 1, code := some k20c0 }
def k20c1 : Code := { maxStack := 2, maxLocals := 1, code := prog_2_method_2_code, exceptionTable := #[], attributes := #[] }
def k20m1 : Method := { name := "ended", desc := "()Z", sig := { parameters := [], returnType := some .boolean }, accessFlags := 1, code := some k20c1 }
/-- com/example/imprimatur/imprimatur/approval/ApprovalView -/
def k20 : Class := { plain "com/example/imprimatur/imprimatur/approval/ApprovalView" (some 19) with
  accessFlags := 49
  interfaces := #[]
  cf := some (fileOf pool20 8 #[.nestMembers #[82]] #[{ accessFlags := 1, nameIndex := 5, descriptorIndex := 64, attributes := #[] }, { accessFlags := 1, nameIndex := 69, descriptorIndex := 70, attributes := #[] }] 49 2 #[] #[{ accessFlags := 18, nameIndex := 11, descriptorIndex := 12, attributes := #[] }, { accessFlags := 18, nameIndex := 15, descriptorIndex := 12, attributes := #[] }, { accessFlags := 18, nameIndex := 18, descriptorIndex := 12, attributes := #[] }, { accessFlags := 18, nameIndex := 21, descriptorIndex := 12, attributes := #[] }, { accessFlags := 18, nameIndex := 24, descriptorIndex := 12, attributes := #[] }, { accessFlags := 18, nameIndex := 27, descriptorIndex := 12, attributes := #[] }, { accessFlags := 18, nameIndex := 30, descriptorIndex := 31, attributes := #[] }, { accessFlags := 18, nameIndex := 34, descriptorIndex := 12, attributes := #[] }, { accessFlags := 18, nameIndex := 37, descriptorIndex := 38, attributes := #[] }, { accessFlags := 18, nameIndex := 41, descriptorIndex := 12, attributes := #[] }, { accessFlags := 18, nameIndex := 44, descriptorIndex := 45, attributes := #[] }, { accessFlags := 18, nameIndex := 48, descriptorIndex := 45, attributes := #[] }])
  fields := #[{ name := "id", type := (.object "java/lang/String"), accessFlags := 18, slot := 0, constantValue := 0 }, { name := "item", type := (.object "java/lang/String"), accessFlags := 18, slot := 1, constantValue := 0 }, { name := "type", type := (.object "java/lang/String"), accessFlags := 18, slot := 2, constantValue := 0 }, { name := "version", type := (.object "java/lang/String"), accessFlags := 18, slot := 3, constantValue := 0 }, { name := "language", type := (.object "java/lang/String"), accessFlags := 18, slot := 4, constantValue := 0 }, { name := "workflow", type := (.object "java/lang/String"), accessFlags := 18, slot := 5, constantValue := 0 }, { name := "workflowVersion", type := .int, accessFlags := 18, slot := 6, constantValue := 0 }, { name := "state", type := (.object "java/lang/String"), accessFlags := 18, slot := 7, constantValue := 0 }, { name := "outcome", type := (.object "com/example/imprimatur/imprimatur/config/Outcome"), accessFlags := 18, slot := 8, constantValue := 0 }, { name := "submittedBy", type := (.object "java/lang/String"), accessFlags := 18, slot := 9, constantValue := 0 }, { name := "authors", type := (.object "java/util/List"), accessFlags := 18, slot := 10, constantValue := 0 }, { name := "transitions", type := (.object "java/util/List"), accessFlags := 18, slot := 11, constantValue := 0 }]
  methods := #[k20m0, k20m1]
  instanceTypes := #[(.object "java/lang/String"), (.object "java/lang/String"), (.object "java/lang/String"), (.object "java/lang/String"), (.object "java/lang/String"), (.object "java/lang/String"), .int, (.object "java/lang/String"), (.object "com/example/imprimatur/imprimatur/config/Outcome"), (.object "java/lang/String"), (.object "java/util/List"), (.object "java/util/List")]
  staticTypes := #[]
  resolved := Array.replicate 114 none
  statics := none }

def pool21 : Array CpInfo := pool [(2, .class_ 4), (1, u "java/lang/Enum"), (0, u "name"), (0, u "Ljava/lang/String;"), (2, u "ordinal"), (0, u "I"), (1, .class_ 14), (1, u "java/lang/Object"), (4, u "hash"), (86, .class_ 108), (1, u "java/lang/Enum$EnumDesc"), (2, .class_ 112), (0, u "java/lang/constant/Constable"), (0, .class_ 114), (0, u "java/lang/Comparable"), (0, .class_ 116), (0, u "java/io/Serializable")] 87

/-- java/lang/Enum -/
def k21 : Class := { plain "java/lang/Enum" (some 0) with
  accessFlags := 1057
  interfaces := #[5, 3, 2]
  cf := some (fileOf pool21 2 #[.nestMembers #[106]] #[] 1057 12 #[111, 113, 115] #[{ accessFlags := 18, nameIndex := 5, descriptorIndex := 6, attributes := #[] }, { accessFlags := 18, nameIndex := 9, descriptorIndex := 10, attributes := #[] }, { accessFlags := 2, nameIndex := 19, descriptorIndex := 10, attributes := #[] }])
  fields := #[{ name := "name", type := (.object "java/lang/String"), accessFlags := 18, slot := 0, constantValue := 0 }, { name := "ordinal", type := .int, accessFlags := 18, slot := 1, constantValue := 0 }, { name := "hash", type := .int, accessFlags := 2, slot := 2, constantValue := 0 }]
  methods := #[]
  instanceTypes := #[(.object "java/lang/String"), .int, .int]
  staticTypes := #[]
  resolved := Array.replicate 204 none
  statics := none }

def pool22 : Array CpInfo := pool [(1, .class_ 2), (0, u "com/example/imprimatur/imprimatur/config/Outcome"), (2, u "APPROVED"), (0, u "Lcom/example/imprimatur/imprimatur/config/Outcome;"), (2, u "REJECTED"), (2, u "ABORTED"), (2, u "SUPERSEDED"), (2, u "$VALUES"), (0, u "[Lcom/example/imprimatur/imprimatur/config/Outcome;"), (6, .class_ 28), (1, u "java/lang/Enum"), (8, u "m_ofState"), (0, u "Z")] 50

/-- com/example/imprimatur/imprimatur/config/Outcome -/
def k22 : Class := { plain "com/example/imprimatur/imprimatur/config/Outcome" (some 21) with
  accessFlags := 16433
  interfaces := #[]
  cf := some (fileOf pool22 1 #[] #[] 16433 26 #[] #[{ accessFlags := 16409, nameIndex := 5, descriptorIndex := 6, attributes := #[] }, { accessFlags := 16409, nameIndex := 9, descriptorIndex := 6, attributes := #[] }, { accessFlags := 16409, nameIndex := 12, descriptorIndex := 6, attributes := #[] }, { accessFlags := 16409, nameIndex := 15, descriptorIndex := 6, attributes := #[] }, { accessFlags := 18, nameIndex := 37, descriptorIndex := 38, attributes := #[] }, { accessFlags := 4122, nameIndex := 18, descriptorIndex := 19, attributes := #[] }])
  fields := #[{ name := "APPROVED", type := (.object "com/example/imprimatur/imprimatur/config/Outcome"), accessFlags := 16409, slot := 0, constantValue := 0 }, { name := "REJECTED", type := (.object "com/example/imprimatur/imprimatur/config/Outcome"), accessFlags := 16409, slot := 1, constantValue := 0 }, { name := "ABORTED", type := (.object "com/example/imprimatur/imprimatur/config/Outcome"), accessFlags := 16409, slot := 2, constantValue := 0 }, { name := "SUPERSEDED", type := (.object "com/example/imprimatur/imprimatur/config/Outcome"), accessFlags := 16409, slot := 3, constantValue := 0 }, { name := "m_ofState", type := .boolean, accessFlags := 18, slot := 3, constantValue := 0 }, { name := "$VALUES", type := (.array (.object "com/example/imprimatur/imprimatur/config/Outcome")), accessFlags := 4122, slot := 4, constantValue := 0 }]
  methods := #[]
  instanceTypes := #[(.object "java/lang/String"), .int, .int, .boolean]
  staticTypes := #[(.object "com/example/imprimatur/imprimatur/config/Outcome"), (.object "com/example/imprimatur/imprimatur/config/Outcome"), (.object "com/example/imprimatur/imprimatur/config/Outcome"), (.object "com/example/imprimatur/imprimatur/config/Outcome"), (.array (.object "com/example/imprimatur/imprimatur/config/Outcome"))]
  resolved := Array.replicate 89 none
  statics := some 2 }

def pool23 : Array CpInfo := pool [(2, .class_ 4), (1, u "java/lang/Object"), (0, u "<init>"), (0, u "()V"), (17, .class_ 26), (1, u "jdk/internal/util/Preconditions"), (28, .class_ 56), (0, u "jdk/internal/util/Preconditions$4"), (57, .class_ 115), (0, u "jdk/internal/util/Preconditions$1"), (7, u "SIOOBE_FORMATTER"), (0, u "Ljava/util/function/BiFunction;"), (0, .class_ 126), (0, u "jdk/internal/util/Preconditions$2"), (3, u "AIOOBE_FORMATTER"), (0, .class_ 132), (0, u "jdk/internal/util/Preconditions$3"), (3, u "IOOBE_FORMATTER")] 57

def k23m0 : Method := { name := "<init>", desc := "()V", sig := { parameters := [], returnType := none }, accessFlags := 1, code := none }
/-- jdk/internal/util/Preconditions -/
def k23 : Class := { plain "jdk/internal/util/Preconditions" (some 0) with
  accessFlags := 33
  interfaces := #[]
  cf := some (fileOf pool23 24 #[.nestMembers #[55, 131, 125, 114]] #[{ accessFlags := 1, nameIndex := 5, descriptorIndex := 6, attributes := #[] }] 33 2 #[] #[{ accessFlags := 25, nameIndex := 123, descriptorIndex := 124, attributes := #[] }, { accessFlags := 25, nameIndex := 130, descriptorIndex := 124, attributes := #[] }, { accessFlags := 25, nameIndex := 136, descriptorIndex := 124, attributes := #[] }])
  fields := #[{ name := "SIOOBE_FORMATTER", type := (.object "java/util/function/BiFunction"), accessFlags := 25, slot := 0, constantValue := 0 }, { name := "AIOOBE_FORMATTER", type := (.object "java/util/function/BiFunction"), accessFlags := 25, slot := 1, constantValue := 0 }, { name := "IOOBE_FORMATTER", type := (.object "java/util/function/BiFunction"), accessFlags := 25, slot := 2, constantValue := 0 }]
  methods := #[k23m0]
  instanceTypes := #[]
  staticTypes := #[(.object "java/util/function/BiFunction"), (.object "java/util/function/BiFunction"), (.object "java/util/function/BiFunction")]
  resolved := Array.replicate 194 none
  statics := some 3 }

def pool24 : Array CpInfo := pool [(9, u "<init>"), (6, .class_ 18), (1, u "java/lang/Object"), (0, u "()V"), (1, .class_ 23), (1, u "jdk/internal/util/ArraysSupport"), (0, u "LOG2_ARRAY_LONG_INDEX_SCALE"), (0, u "I"), (2, u "U"), (0, u "Ljdk/internal/misc/Unsafe;"), (8, u "BIG_ENDIAN"), (0, u "Z"), (8, u "LOG2_BYTE_BIT_SIZE"), (4, u "LOG2_ARRAY_INT_INDEX_SCALE"), (54, u "JLA"), (0, u "Ljdk/internal/access/JavaLangAccess;"), (11, u "LOG2_ARRAY_BOOLEAN_INDEX_SCALE"), (9, u "LOG2_ARRAY_BYTE_INDEX_SCALE"), (5, u "LOG2_ARRAY_CHAR_INDEX_SCALE"), (5, u "LOG2_ARRAY_SHORT_INDEX_SCALE"), (18, u "LOG2_ARRAY_FLOAT_INDEX_SCALE"), (24, u "LOG2_ARRAY_DOUBLE_INDEX_SCALE"), (89, u "T_BOOLEAN"), (2, u "T_CHAR"), (1, u "T_FLOAT"), (1, u "T_DOUBLE"), (1, u "T_BYTE"), (1, u "T_SHORT"), (1, u "T_INT"), (1, u "T_LONG"), (1, u "SOFT_MAX_ARRAY_LENGTH")] 83

def k24m0 : Method := { name := "<init>", desc := "()V", sig := { parameters := [], returnType := none }, accessFlags := 2, code := none }
/-- jdk/internal/util/ArraysSupport -/
def k24 : Class := { plain "jdk/internal/util/ArraysSupport" (some 0) with
  accessFlags := 33
  interfaces := #[]
  cf := some (fileOf pool24 21 #[] #[{ accessFlags := 2, nameIndex := 9, descriptorIndex := 19, attributes := #[] }] 33 16 #[] #[{ accessFlags := 24, nameIndex := 28, descriptorIndex := 29, attributes := #[] }, { accessFlags := 26, nameIndex := 38, descriptorIndex := 39, attributes := #[] }, { accessFlags := 25, nameIndex := 121, descriptorIndex := 25, attributes := #[] }, { accessFlags := 25, nameIndex := 131, descriptorIndex := 25, attributes := #[] }, { accessFlags := 25, nameIndex := 137, descriptorIndex := 25, attributes := #[] }, { accessFlags := 25, nameIndex := 143, descriptorIndex := 25, attributes := #[] }, { accessFlags := 25, nameIndex := 53, descriptorIndex := 25, attributes := #[] }, { accessFlags := 25, nameIndex := 24, descriptorIndex := 25, attributes := #[] }, { accessFlags := 25, nameIndex := 162, descriptorIndex := 25, attributes := #[] }, { accessFlags := 25, nameIndex := 187, descriptorIndex := 25, attributes := #[] }, { accessFlags := 26, nameIndex := 48, descriptorIndex := 25, attributes := #[] }, { accessFlags := 25, nameIndex := 277, descriptorIndex := 25, attributes := #[] }, { accessFlags := 25, nameIndex := 280, descriptorIndex := 25, attributes := #[] }, { accessFlags := 25, nameIndex := 282, descriptorIndex := 25, attributes := #[] }, { accessFlags := 25, nameIndex := 284, descriptorIndex := 25, attributes := #[] }, { accessFlags := 25, nameIndex := 286, descriptorIndex := 25, attributes := #[] }, { accessFlags := 25, nameIndex := 288, descriptorIndex := 25, attributes := #[] }, { accessFlags := 25, nameIndex := 290, descriptorIndex := 25, attributes := #[] }, { accessFlags := 25, nameIndex := 292, descriptorIndex := 25, attributes := #[] }, { accessFlags := 26, nameIndex := 108, descriptorIndex := 109, attributes := #[] }, { accessFlags := 25, nameIndex := 294, descriptorIndex := 25, attributes := #[] }])
  fields := #[{ name := "U", type := (.object "jdk/internal/misc/Unsafe"), accessFlags := 24, slot := 0, constantValue := 0 }, { name := "BIG_ENDIAN", type := .boolean, accessFlags := 26, slot := 1, constantValue := 0 }, { name := "LOG2_ARRAY_BOOLEAN_INDEX_SCALE", type := .int, accessFlags := 25, slot := 2, constantValue := 0 }, { name := "LOG2_ARRAY_BYTE_INDEX_SCALE", type := .int, accessFlags := 25, slot := 3, constantValue := 0 }, { name := "LOG2_ARRAY_CHAR_INDEX_SCALE", type := .int, accessFlags := 25, slot := 4, constantValue := 0 }, { name := "LOG2_ARRAY_SHORT_INDEX_SCALE", type := .int, accessFlags := 25, slot := 5, constantValue := 0 }, { name := "LOG2_ARRAY_INT_INDEX_SCALE", type := .int, accessFlags := 25, slot := 6, constantValue := 0 }, { name := "LOG2_ARRAY_LONG_INDEX_SCALE", type := .int, accessFlags := 25, slot := 7, constantValue := 0 }, { name := "LOG2_ARRAY_FLOAT_INDEX_SCALE", type := .int, accessFlags := 25, slot := 8, constantValue := 0 }, { name := "LOG2_ARRAY_DOUBLE_INDEX_SCALE", type := .int, accessFlags := 25, slot := 9, constantValue := 0 }, { name := "LOG2_BYTE_BIT_SIZE", type := .int, accessFlags := 26, slot := 10, constantValue := 0 }, { name := "T_BOOLEAN", type := .int, accessFlags := 25, slot := 11, constantValue := 0 }, { name := "T_CHAR", type := .int, accessFlags := 25, slot := 12, constantValue := 0 }, { name := "T_FLOAT", type := .int, accessFlags := 25, slot := 13, constantValue := 0 }, { name := "T_DOUBLE", type := .int, accessFlags := 25, slot := 14, constantValue := 0 }, { name := "T_BYTE", type := .int, accessFlags := 25, slot := 15, constantValue := 0 }, { name := "T_SHORT", type := .int, accessFlags := 25, slot := 16, constantValue := 0 }, { name := "T_INT", type := .int, accessFlags := 25, slot := 17, constantValue := 0 }, { name := "T_LONG", type := .int, accessFlags := 25, slot := 18, constantValue := 0 }, { name := "JLA", type := (.object "jdk/internal/access/JavaLangAccess"), accessFlags := 26, slot := 19, constantValue := 0 }, { name := "SOFT_MAX_ARRAY_LENGTH", type := .int, accessFlags := 25, slot := 20, constantValue := 0 }]
  methods := #[k24m0]
  instanceTypes := #[]
  staticTypes := #[(.object "jdk/internal/misc/Unsafe"), .boolean, .int, .int, .int, .int, .int, .int, .int, .int, .int, .int, .int, .int, .int, .int, .int, .int, .int, (.object "jdk/internal/access/JavaLangAccess"), .int]
  resolved := Array.replicate 378 none
  statics := none }

/-- the primitive byte -/
def k25 : Class := { plain "byte" none with kind := .primitive 'B', accessFlags := 0x411 }
/-- [B -/
def k26 : Class := { plain "[B" (some 0) with kind := .array 25 .byte, interfaces := #[16, 2], accessFlags := 1041 }

/-- the primitive int -/
def k27 : Class := { plain "int" none with kind := .primitive 'I', accessFlags := 0x411 }
/-- [I -/
def k28 : Class := { plain "[I" (some 0) with kind := .array 27 .int, interfaces := #[16, 2], accessFlags := 1041 }

/-- [Ljava/lang/Object; -/
def k29 : Class := { plain "[Ljava/lang/Object;" (some 0) with kind := .array 0 (.object "java/lang/Object"), interfaces := #[16, 2], accessFlags := 1041 }

def heap : Heap := #[{ cls := 7, slots := #[.long 0, .int 1, .null, .int 0, .null, .int 0, .int 0], vm := .statics 7 },
  { cls := 17, slots := #[.long 0, .int 0, .ref 8, .ref 9], vm := .statics 17 },
  { cls := 22, slots := #[.ref 4, .ref 5, .ref 6, .ref 7, .null], vm := .statics 22 },
  { cls := 23, slots := #[.null, .null, .null], vm := .statics 23 },
  { cls := 22, slots := #[.null, .int 0, .int 0, .int 0], vm := .none },
  { cls := 22, slots := #[.null, .int 1, .int 0, .int 0], vm := .none },
  { cls := 22, slots := #[.null, .int 2, .int 0, .int 0], vm := .none },
  { cls := 22, slots := #[.null, .int 3, .int 0, .int 0], vm := .none },
  { cls := 29, slots := #[], vm := .none },
  { cls := 29, slots := #[], vm := .none }]
def classes : Array Class := #[k0, k1, k2, k3, k4, k5, k6, k7, k8, k9, k10, k11, k12, k13, k14, k15, k16, k17, k18, k19, k20, k21, k22, k23, k24, k25, k26, k27, k28, k29]
def interned : List (Array UInt16 × Addr) := []
def slotsUsed : Nat := 35
def theMethod : MethodId := ⟨1, 2⟩
def args0 : Array Value := #[.int 5, .int 5, .int 65, .int 66]
def aboutOver (below : List Frame) : State where
  vm := { classes := classes, interned := interned.toArray }
  heap := heap
  slotsUsed := slotsUsed
  threads := #[{ frames := .invoking theMethod args0 :: below }]
def below0 : List Frame := [.native { method := ⟨0, 0⟩, args := #[] }]
def about1 : State := aboutOver below0
def p0 : Program := .bare "" "" ""
def e0 : Env := launch0.env 0 0 0
theorem w_frames : about1.frames = Frame.invoking theMethod args0 :: below0 := rfl
set_option maxRecDepth 65536 in
theorem w_args : argsFit about1.vm theMethod args0 = true := by decide +kernel
set_option maxRecDepth 65536 in
theorem w_heap : heapFits about1 = true := by decide +kernel
set_option maxRecDepth 65536 in
theorem w_runnable : about1.curStatus? = some .runnable := by decide +kernel
set_option maxRecDepth 65536 in
theorem w_alone : about1.alone = true := by decide +kernel
set_option maxRecDepth 65536 in
theorem w_named : about1.methodNamed? x = some theMethod := by decide +kernel
set_option maxRecDepth 65536 in
theorem w_hears : about1.hears theMethod below0 = true := by decide +kernel
set_option maxRecDepth 65536 in
theorem w_ripe : about1.ripe theMethod args0 below0 = true := by decide +kernel
theorem w_running : about1.status = .running := rfl
set_option maxRecDepth 65536 in
theorem w_room : about1.hasRoom e0.platform room_1 = true :=
  launch0.hasRoom_least _ room_1 (by decide +kernel) (by decide +kernel) (by decide +kernel) (by decide +kernel) (by decide +kernel) (by decide +kernel)
theorem allAtoms_all (ts : List Jvm.Cond) (a : Array Jvm.Value) (st : Jvm.State) : (allAtoms ts).before a st = ts.all (fun c => c.before a st) := by
  induction ts with
  | nil => rfl
  | cons c t ih =>
    show (Jvm.Cond.and c (allAtoms t)).before a st = _
    rw [Jvm.Cond.before_and, ih, List.all_cons]
def words1 : List Jvm.Cond := Jvm.Cond.code x code maxLocals ret :: tables_1
/-- a 'code' word, met by the world's own term for the bytes: nothing is compared byte by byte -/
theorem code_word {y : MethodName} {bytes : ByteArray} {mx : Nat} {rt : Option FieldType} {a : Array Value} {s : State} {m : MethodId} {meth : Method} {c : Code} (h1 : s.methodNamed? y = some m) (h2 : s.vm.method? m = some meth) (h3 : meth.code = some c) (h4 : c.code = bytes)
    (h5 : (c.maxLocals == mx && c.exceptionTable.isEmpty && decide (c.maxStack ≤ mostOperands) && decide (meth.sig.returnType = rt) && !meth.locks && decide (parseMethodDescriptor y.desc = some meth.sig)) = true) : (Jvm.Cond.code y bytes mx rt).before a s = true := by
  simp only [Bool.and_eq_true, beq_iff_eq, Bool.not_eq_true', decide_eq_true_eq] at h5
  obtain ⟨⟨⟨⟨⟨g1, g2⟩, g3⟩, g4⟩, g5⟩, g6⟩ := h5
  simp [Cond.before, Cond.holds, Cond.value, h1, h2, h3, h4, g1, g2, g3, g4, g5, g6]
def isCode : Jvm.Cond → Bool
  | .code _ _ _ _ => true
  | _ => false
theorem all_split {L : List Jvm.Cond} {P : Jvm.Cond → Bool} (h1 : L.all (fun c => isCode c || P c) = true) (h2 : ∀ c ∈ L.filter isCode, P c = true) : L.all P = true := by
  refine List.all_eq_true.mpr fun c hc => ?_
  have h := List.all_eq_true.mp h1 c hc
  rcases Bool.eq_false_or_eq_true (isCode c) with hi | hi
  · exact h2 c (List.mem_filter.mpr ⟨hc, hi⟩)
  · simpa [hi] using h
set_option maxRecDepth 65536 in
theorem w_c0 : (Jvm.Cond.code x code maxLocals ret).before args0 about1 = true := code_word (m := ⟨1, 2⟩) (meth := k1m2) (c := k1c2) (by decide +kernel) rfl rfl rfl (by decide +kernel)
set_option maxRecDepth 65536 in
theorem w_c1 : (Jvm.Cond.code ({ cls := "com/example/imprimatur/imprimatur/approval/ApprovalViewEndedPinLaw", name := "pick", desc := "(I)Lcom/example/imprimatur/imprimatur/config/Outcome;" } : Jvm.MethodName) method_2_code (1 : Nat) (Option.some (Jvm.ClassFile.FieldType.object "com/example/imprimatur/imprimatur/config/Outcome"))).before args0 about1 = true := code_word (m := ⟨1, 1⟩) (meth := k1m1) (c := k1c1) (by decide +kernel) rfl rfl rfl (by decide +kernel)
set_option maxRecDepth 65536 in
theorem w_c2 : (Jvm.Cond.code ({ cls := "java/lang/String", name := "valueOf", desc := "(C)Ljava/lang/String;" } : Jvm.MethodName) jdk_42_method_139_code (1 : Nat) (Option.some (Jvm.ClassFile.FieldType.object "java/lang/String"))).before args0 about1 = true := code_word (m := ⟨7, 1⟩) (meth := k7m1) (c := k7c1) (by decide +kernel) rfl rfl rfl (by decide +kernel)
set_option maxRecDepth 65536 in
theorem w_c3 : (Jvm.Cond.code ({ cls := "java/lang/StringLatin1", name := "canEncode", desc := "(C)Z" } : Jvm.MethodName) jdk_43_method_3_code (1 : Nat) (Option.some Jvm.ClassFile.FieldType.boolean)).before args0 about1 = true := code_word (m := ⟨8, 1⟩) (meth := k8m1) (c := k8c1) (by decide +kernel) rfl rfl rfl (by decide +kernel)
set_option maxRecDepth 65536 in
theorem w_c4 : (Jvm.Cond.code ({ cls := "java/lang/StringLatin1", name := "toBytes", desc := "(C)[B" } : Jvm.MethodName) jdk_43_method_46_code (1 : Nat) (Option.some (Jvm.ClassFile.FieldType.array Jvm.ClassFile.FieldType.byte))).before args0 about1 = true := code_word (m := ⟨8, 2⟩) (meth := k8m2) (c := k8c2) (by decide +kernel) rfl rfl rfl (by decide +kernel)
set_option maxRecDepth 65536 in
theorem w_c5 : (Jvm.Cond.code ({ cls := "java/lang/String", name := "<init>", desc := "([BB)V" } : Jvm.MethodName) jdk_42_method_151_code (3 : Nat) (Option.none : Option Jvm.ClassFile.FieldType)).before args0 about1 = true := code_word (m := ⟨7, 2⟩) (meth := k7m2) (c := k7c2) (by decide +kernel) rfl rfl rfl (by decide +kernel)
set_option maxRecDepth 65536 in
theorem w_c6 : (Jvm.Cond.code ({ cls := "java/lang/Object", name := "<init>", desc := "()V" } : Jvm.MethodName) object_method_1_code (1 : Nat) (Option.none : Option Jvm.ClassFile.FieldType)).before args0 about1 = true := code_word (m := ⟨0, 0⟩) (meth := k0m0) (c := k0c0) (by decide +kernel) rfl rfl rfl (by decide +kernel)
set_option maxRecDepth 65536 in
theorem w_c7 : (Jvm.Cond.code ({ cls := "java/util/ArrayList", name := "<init>", desc := "()V" } : Jvm.MethodName) jdk_38_method_2_code (1 : Nat) (Option.none : Option Jvm.ClassFile.FieldType)).before args0 about1 = true := code_word (m := ⟨17, 0⟩) (meth := k17m0) (c := k17c0) (by decide +kernel) rfl rfl rfl (by decide +kernel)
set_option maxRecDepth 65536 in
theorem w_c8 : (Jvm.Cond.code ({ cls := "java/util/AbstractList", name := "<init>", desc := "()V" } : Jvm.MethodName) jdk_39_method_1_code (1 : Nat) (Option.none : Option Jvm.ClassFile.FieldType)).before args0 about1 = true := code_word (m := ⟨14, 0⟩) (meth := k14m0) (c := k14c0) (by decide +kernel) rfl rfl rfl (by decide +kernel)
set_option maxRecDepth 65536 in
theorem w_c9 : (Jvm.Cond.code ({ cls := "java/util/AbstractCollection", name := "<init>", desc := "()V" } : Jvm.MethodName) jdk_22_method_1_code (1 : Nat) (Option.none : Option Jvm.ClassFile.FieldType)).before args0 about1 = true := code_word (m := ⟨11, 0⟩) (meth := k11m0) (c := k11c0) (by decide +kernel) rfl rfl rfl (by decide +kernel)
set_option maxRecDepth 65536 in
theorem w_c10 : (Jvm.Cond.code ({ cls := "java/util/ArrayList", name := "add", desc := "(Ljava/lang/Object;)Z" } : Jvm.MethodName) jdk_38_method_25_code (2 : Nat) (Option.some Jvm.ClassFile.FieldType.boolean)).before args0 about1 = true := code_word (m := ⟨17, 4⟩) (meth := k17m4) (c := k17c4) (by decide +kernel) rfl rfl rfl (by decide +kernel)
set_option maxRecDepth 65536 in
theorem w_c11 : (Jvm.Cond.code ({ cls := "java/util/ArrayList", name := "add", desc := "(Ljava/lang/Object;[Ljava/lang/Object;I)V" } : Jvm.MethodName) jdk_38_method_24_code (4 : Nat) (Option.none : Option Jvm.ClassFile.FieldType)).before args0 about1 = true := code_word (m := ⟨17, 3⟩) (meth := k17m3) (c := k17c3) (by decide +kernel) rfl rfl rfl (by decide +kernel)
set_option maxRecDepth 65536 in
theorem w_c12 : (Jvm.Cond.code ({ cls := "java/util/ArrayList", name := "grow", desc := "()[Ljava/lang/Object;" } : Jvm.MethodName) jdk_38_method_7_code (1 : Nat) (Option.some (Jvm.ClassFile.FieldType.array (Jvm.ClassFile.FieldType.object "java/lang/Object")))).before args0 about1 = true := code_word (m := ⟨17, 2⟩) (meth := k17m2) (c := k17c2) (by decide +kernel) rfl rfl rfl (by decide +kernel)
set_option maxRecDepth 65536 in
theorem w_c13 : (Jvm.Cond.code ({ cls := "java/util/ArrayList", name := "grow", desc := "(I)[Ljava/lang/Object;" } : Jvm.MethodName) jdk_38_method_6_code (4 : Nat) (Option.some (Jvm.ClassFile.FieldType.array (Jvm.ClassFile.FieldType.object "java/lang/Object")))).before args0 about1 = true := code_word (m := ⟨17, 1⟩) (meth := k17m1) (c := k17c1) (by decide +kernel) rfl rfl rfl (by decide +kernel)
set_option maxRecDepth 65536 in
theorem w_c14 : (Jvm.Cond.code ({ cls := "java/lang/Math", name := "max", desc := "(II)I" } : Jvm.MethodName) jdk_29_method_65_code (2 : Nat) (Option.some Jvm.ClassFile.FieldType.int)).before args0 about1 = true := code_word (m := ⟨18, 1⟩) (meth := k18m1) (c := k18c1) (by decide +kernel) rfl rfl rfl (by decide +kernel)
set_option maxRecDepth 65536 in
theorem w_c15 : (Jvm.Cond.code ({ cls := "com/example/imprimatur/imprimatur/approval/ApprovalView", name := "<init>", desc := "(Ljava/lang/String;Ljava/lang/String;Ljava/lang/String;Ljava/lang/String;Ljava/lang/String;Ljava/lang/String;ILjava/lang/String;Lcom/example/imprimatur/imprimatur/config/Outcome;Ljava/lang/String;Ljava/util/List;Ljava/util/List;)V" } : Jvm.MethodName) prog_2_method_1_code (13 : Nat) (Option.none : Option Jvm.ClassFile.FieldType)).before args0 about1 = true := code_word (m := ⟨20, 0⟩) (meth := k20m0) (c := k20c0) (by decide +kernel) rfl rfl rfl (by decide +kernel)
set_option maxRecDepth 65536 in
theorem w_c16 : (Jvm.Cond.code ({ cls := "java/lang/Record", name := "<init>", desc := "()V" } : Jvm.MethodName) jdk_30_method_1_code (1 : Nat) (Option.none : Option Jvm.ClassFile.FieldType)).before args0 about1 = true := code_word (m := ⟨19, 0⟩) (meth := k19m0) (c := k19c0) (by decide +kernel) rfl rfl rfl (by decide +kernel)
set_option maxRecDepth 65536 in
theorem w_c17 : (Jvm.Cond.code ({ cls := "com/example/imprimatur/imprimatur/approval/ApprovalView", name := "ended", desc := "()Z" } : Jvm.MethodName) prog_2_method_2_code (1 : Nat) (Option.some Jvm.ClassFile.FieldType.boolean)).before args0 about1 = true := code_word (m := ⟨20, 1⟩) (meth := k20m1) (c := k20c1) (by decide +kernel) rfl rfl rfl (by decide +kernel)
def codes1 : List Jvm.Cond := [Jvm.Cond.code x code maxLocals ret, Jvm.Cond.code ({ cls := "com/example/imprimatur/imprimatur/approval/ApprovalViewEndedPinLaw", name := "pick", desc := "(I)Lcom/example/imprimatur/imprimatur/config/Outcome;" } : Jvm.MethodName) method_2_code (1 : Nat) (Option.some (Jvm.ClassFile.FieldType.object "com/example/imprimatur/imprimatur/config/Outcome")), Jvm.Cond.code ({ cls := "java/lang/String", name := "valueOf", desc := "(C)Ljava/lang/String;" } : Jvm.MethodName) jdk_42_method_139_code (1 : Nat) (Option.some (Jvm.ClassFile.FieldType.object "java/lang/String")), Jvm.Cond.code ({ cls := "java/lang/StringLatin1", name := "canEncode", desc := "(C)Z" } : Jvm.MethodName) jdk_43_method_3_code (1 : Nat) (Option.some Jvm.ClassFile.FieldType.boolean), Jvm.Cond.code ({ cls := "java/lang/StringLatin1", name := "toBytes", desc := "(C)[B" } : Jvm.MethodName) jdk_43_method_46_code (1 : Nat) (Option.some (Jvm.ClassFile.FieldType.array Jvm.ClassFile.FieldType.byte)), Jvm.Cond.code ({ cls := "java/lang/String", name := "<init>", desc := "([BB)V" } : Jvm.MethodName) jdk_42_method_151_code (3 : Nat) (Option.none : Option Jvm.ClassFile.FieldType), Jvm.Cond.code ({ cls := "java/lang/Object", name := "<init>", desc := "()V" } : Jvm.MethodName) object_method_1_code (1 : Nat) (Option.none : Option Jvm.ClassFile.FieldType), Jvm.Cond.code ({ cls := "java/util/ArrayList", name := "<init>", desc := "()V" } : Jvm.MethodName) jdk_38_method_2_code (1 : Nat) (Option.none : Option Jvm.ClassFile.FieldType), Jvm.Cond.code ({ cls := "java/util/AbstractList", name := "<init>", desc := "()V" } : Jvm.MethodName) jdk_39_method_1_code (1 : Nat) (Option.none : Option Jvm.ClassFile.FieldType), Jvm.Cond.code ({ cls := "java/util/AbstractCollection", name := "<init>", desc := "()V" } : Jvm.MethodName) jdk_22_method_1_code (1 : Nat) (Option.none : Option Jvm.ClassFile.FieldType), Jvm.Cond.code ({ cls := "java/util/ArrayList", name := "add", desc := "(Ljava/lang/Object;)Z" } : Jvm.MethodName) jdk_38_method_25_code (2 : Nat) (Option.some Jvm.ClassFile.FieldType.boolean), Jvm.Cond.code ({ cls := "java/util/ArrayList", name := "add", desc := "(Ljava/lang/Object;[Ljava/lang/Object;I)V" } : Jvm.MethodName) jdk_38_method_24_code (4 : Nat) (Option.none : Option Jvm.ClassFile.FieldType), Jvm.Cond.code ({ cls := "java/util/ArrayList", name := "grow", desc := "()[Ljava/lang/Object;" } : Jvm.MethodName) jdk_38_method_7_code (1 : Nat) (Option.some (Jvm.ClassFile.FieldType.array (Jvm.ClassFile.FieldType.object "java/lang/Object"))), Jvm.Cond.code ({ cls := "java/util/ArrayList", name := "grow", desc := "(I)[Ljava/lang/Object;" } : Jvm.MethodName) jdk_38_method_6_code (4 : Nat) (Option.some (Jvm.ClassFile.FieldType.array (Jvm.ClassFile.FieldType.object "java/lang/Object"))), Jvm.Cond.code ({ cls := "java/lang/Math", name := "max", desc := "(II)I" } : Jvm.MethodName) jdk_29_method_65_code (2 : Nat) (Option.some Jvm.ClassFile.FieldType.int), Jvm.Cond.code ({ cls := "com/example/imprimatur/imprimatur/approval/ApprovalView", name := "<init>", desc := "(Ljava/lang/String;Ljava/lang/String;Ljava/lang/String;Ljava/lang/String;Ljava/lang/String;Ljava/lang/String;ILjava/lang/String;Lcom/example/imprimatur/imprimatur/config/Outcome;Ljava/lang/String;Ljava/util/List;Ljava/util/List;)V" } : Jvm.MethodName) prog_2_method_1_code (13 : Nat) (Option.none : Option Jvm.ClassFile.FieldType), Jvm.Cond.code ({ cls := "java/lang/Record", name := "<init>", desc := "()V" } : Jvm.MethodName) jdk_30_method_1_code (1 : Nat) (Option.none : Option Jvm.ClassFile.FieldType), Jvm.Cond.code ({ cls := "com/example/imprimatur/imprimatur/approval/ApprovalView", name := "ended", desc := "()Z" } : Jvm.MethodName) prog_2_method_2_code (1 : Nat) (Option.some Jvm.ClassFile.FieldType.boolean)]
set_option maxRecDepth 65536 in
theorem codes_eq : words1.filter isCode = codes1 := rfl
theorem w_codes : ∀ c ∈ words1.filter isCode, c.before args0 about1 = true := by
  rw [codes_eq]
  intro c hc
  simp only [codes1, List.mem_cons, List.not_mem_nil, or_false] at hc
  rcases hc with rfl | rfl | rfl | rfl | rfl | rfl | rfl | rfl | rfl | rfl | rfl | rfl | rfl | rfl | rfl | rfl | rfl | rfl
  · exact w_c0
  · exact w_c1
  · exact w_c2
  · exact w_c3
  · exact w_c4
  · exact w_c5
  · exact w_c6
  · exact w_c7
  · exact w_c8
  · exact w_c9
  · exact w_c10
  · exact w_c11
  · exact w_c12
  · exact w_c13
  · exact w_c14
  · exact w_c15
  · exact w_c16
  · exact w_c17
set_option maxRecDepth 65536 in
theorem w_t1 : (words1.take 24).all (fun c => isCode c || c.before args0 about1) = true := by decide +kernel
set_option maxRecDepth 65536 in
theorem w_t2 : ((words1.drop 24).take 24).all (fun c => isCode c || c.before args0 about1) = true := by decide +kernel
set_option maxRecDepth 65536 in
theorem w_t3 : (((words1.drop 24).drop 24).take 24).all (fun c => isCode c || c.before args0 about1) = true := by decide +kernel
set_option maxRecDepth 65536 in
theorem w_t4 : ((((words1.drop 24).drop 24).drop 24).take 24).all (fun c => isCode c || c.before args0 about1) = true := by decide +kernel
set_option maxRecDepth 65536 in
theorem w_t5 : (((((words1.drop 24).drop 24).drop 24).drop 24).take 24).all (fun c => isCode c || c.before args0 about1) = true := by decide +kernel
set_option maxRecDepth 65536 in
theorem w_t6 : (((((words1.drop 24).drop 24).drop 24).drop 24).drop 24).all (fun c => isCode c || c.before args0 about1) = true := by decide +kernel
theorem w_tables : (allAtoms (Jvm.Cond.code x code maxLocals ret :: tables_1)).before args0 about1 = true := by
  rw [allAtoms_all]
  show words1.all (fun c => c.before args0 about1) = true
  refine all_split ?_ w_codes
  rw [← List.take_append_drop 24 words1, List.all_append, w_t1, ← List.take_append_drop 24 (words1.drop 24), List.all_append, w_t2, ← List.take_append_drop 24 ((words1.drop 24).drop 24), List.all_append, w_t3, ← List.take_append_drop 24 (((words1.drop 24).drop 24).drop 24), List.all_append, w_t4, ← List.take_append_drop 24 ((((words1.drop 24).drop 24).drop 24).drop 24), List.all_append, w_t5, w_t6]
  rfl
set_option maxRecDepth 65536 in
theorem w_rest : rest_1_c.before args0 about1 = true := by decide +kernel
set_option maxRecDepth 65536 in
theorem w_case : (Jvm.Cond.and given_1 narrow_1).before args0 about1 = true := by decide +kernel
theorem w_applies : (headSpec (Jvm.Cond.code x code maxLocals ret :: tables_1) room_1).applies x e0.platform about1 = true :=
  (Spec.applies_iff w_frames).mpr ⟨w_running, w_runnable, w_alone, w_named, w_hears, w_ripe, w_room, w_tables⟩
theorem atStart : AtStart classFile x code maxLocals ret World_1 tables_1 room_1 Calls_1 rest_1 Pre_1 launch0 p0 e0 about1 theMethod args0 below0 :=
  ⟨lists_1, trivial, launch0.admits_env _ _ _, launch0.least_env, fairChoices_fair.cas, fairChoices_fair.clock, w_frames, w_args, w_heap, w_applies, trivial, w_rest, w_case⟩
end start1
theorem witness_1 : WitnessClaimed_1 := ⟨start1.p0, start1.e0, start1.about1, start1.theMethod, start1.args0, start1.below0, start1.atStart⟩
end Jvm.Pilot.@@N@@
