import JvmDerived
import JvmDerived.Pilot.@@N@@Statement
import JvmDerived.Pilot.@@N@@Code
set_option linter.unusedVariables false
set_option linter.unusedSimpArgs false
namespace Jvm.Pilot.@@N@@
open Jvm Jvm.ClassFile Sem Op Lib Jvm.Free Jvm.Stand Jvm.LawKit Jvm.RoadKit Bundle Jvm.Pilot.@@N@@.Jvm.D
/-! own kit: a walk that goes forward: Go says what is still owed from the state S -/
section OwnGo
variable {p : Program} {l : Launch} {e : Env} {R : Room} {s : State} {m : MethodId} {args : Array Value} {below : List Frame} {meth : Method} {c : Code} {T : State} {locs : List Loc} {cells slots : Nat} {Z : State} {a0 : Array Value} {h : Heap} {G : Outcome → State → Prop} {S S' : State}
def Go (p : Program) (e : Env) (below : List Frame) (G : Outcome → State → Prop) (S : State) : Prop :=
  ∃ s₂ o, Steps p.tables e below S s₂ ∧ s₂.status = .running ∧ Ended s₂ below o ∧ G o s₂
theorem Go.st (h : ∀ t, Steps p.tables e below S' t → Steps p.tables e below S t) (k : Go p e below G S') : Go p e below G S := by
  obtain ⟨s₂, o, h1, h2⟩ := k
  exact ⟨s₂, o, h _ h1, h2⟩
theorem Go.tr (h : Steps p.tables e below S S') (k : Go p e below G S') : Go p e below G S := by
  obtain ⟨s₂, o, h1, h2⟩ := k
  exact ⟨s₂, o, h.trans h1, h2⟩
theorem Go.cast {g g' : JFrame} (q : g = g') (k : Go p e below G (T.setTop g')) : Go p e below G (T.setTop g) := q ▸ k
/-- what a body leaves: Q of the value, the heap and the places written -/
def Left (s : State) (K N : Nat) (Q : Option Value → Heap → List Loc → Prop) : Outcome → State → Prop :=
  fun o t => ∃ v L, o = .returned v ∧ Q v t.heap L ∧ FrameEnd s o t L K N
/-- a body's contract -/
def Pays (l : Launch) (y : MethodName) (bytes : ByteArray) (maxL : Nat) (ret : Option FieldType) (rm : Room) (Z : State) (as' : Array Value) (h0 : Heap) (Q : Option Value → Heap → List Loc → Prop) : Prop :=
  ∀ ws, MetFree l y (head1 (Cond.code y bytes maxL ret :: ws) rm) (fun a U => a = as' ∧ Z.Warmed39 U.vm ∧ U.heap = h0) (fun _ _ _ _ _ => True) (fun _ U o U' => ∃ v L, o = .returned v ∧ Q v U'.heap L ∧ FrameEnd U o U' L rm.cells rm.slots)
theorem Pays.of {y : MethodName} {bytes : ByteArray} {maxL : Nat} {ret : Option FieldType} {rm : Room} {as' : Array Value} {h0 : Heap} {Q : Option Value → Heap → List Loc → Prop} (hx : plainFor y = true)
    (body : ∀ (p : Program) (e : Env) (s : State) (m : MethodId) (below : List Frame) (meth : Method) (c : Code) (T : State), p.tables.exec = Jvm.exec → c.code = bytes → c.maxLocals = maxL → meth.sig.returnType = ret → meth.locks = false → Z.Warmed39 s.vm → s.vm.findClass y.cls = some m.cls → meth.name = y.name →
      T.heap = h0 → Stand p l e rm s m as' below meth c T [] 0 0 → Go p e below (Left s rm.cells rm.slots Q) (T.setTop (entryFrame m as' maxL))) : Pays l y bytes maxL ret rm Z as' h0 Q := by
  intro ws
  refine MetFree.of_bodySF hx hisR ?_
  intro p e s m args below meth c s₁ Bd hml0 hP hK
  obtain ⟨rfl, hZ, hh⟩ := hP
  exact body p e s m below meth c s₁ Bd.exec Bd.bytes hml0 Bd.returns Bd.notSynchronized hZ (findClass_of_methodNamed Bd.named) (name_of_methodNamed Bd.named Bd.method).1 (by rw [← hh, Bd.state]; rfl) (Stand.of_body Bd)
theorem Go.out (X : Stand p l e R s m args below meth c T locs cells slots) {v : Option Value} {K N : Nat} {Q : Option Value → Heap → List Loc → Prop} (hlocks : meth.locks = false) (hv : meth.sig.returnType = none → v = none) (hK : cells ≤ K) (hN : slots ≤ N) (hQ : Q v T.heap locs)
    (st : ∀ fs, (∀ (f : JFrame) (acts : List Action), f.method = m → f.locked = none → f.entered = [] → (doReturn e (T.setTop f) acts v).1 = T.setFrames fs) → Steps p.tables e below S (T.setFrames fs)) : Go p e below (Left s K N Q) S := by
  obtain ⟨fs, hr, hrun, hended, hW, hsame⟩ := X.leave hv hlocks
  exact ⟨_, _, st fs hr, hrun, hended, v, locs, rfl, hQ, ⟨_, rfl⟩, hW, hsame.mono hK hN⟩
theorem ret_b (X : Stand p l e R s m args below meth c T locs cells slots) (hx : p.tables.exec = Jvm.exec) (hlocks : meth.locks = false) (hret : meth.sig.returnType = some .boolean) {pc : Nat} {Ls : Array Slot} {z : Int32} {rest : List Value} {K N : Nat} {Q : Option Value → Heap → List Loc → Prop} (hd : decode c.code pc = .ok (.ireturn, 1)) (hK : cells ≤ K) (hN : slots ≤ N)
    (hQ : Q (some (.int (z &&& 1))) T.heap locs) : Go p e below (Left s K N Q) (T.setTop (mkF m pc Ls (.int z :: rest))) :=
  Go.out X (v := some (.int (z &&& 1))) hlocks (fun h => by rw [hret] at h; cases h) hK hN hQ fun fs hr => retN X hx (t := .boolean) hret (by simp) hd hr
theorem ret_c (X : Stand p l e R s m args below meth c T locs cells slots) (hx : p.tables.exec = Jvm.exec) (hlocks : meth.locks = false) (hret : meth.sig.returnType = some .char) {pc : Nat} {Ls : Array Slot} {z : Int32} {rest : List Value} {K N : Nat} {Q : Option Value → Heap → List Loc → Prop} (hd : decode c.code pc = .ok (.ireturn, 1)) (hK : cells ≤ K) (hN : slots ≤ N)
    (hQ : Q (some (.int (nar .char z))) T.heap locs) : Go p e below (Left s K N Q) (T.setTop (mkF m pc Ls (.int z :: rest))) :=
  Go.out X (v := some (.int (nar .char z))) hlocks (fun h => by rw [hret] at h; cases h) hK hN hQ fun fs hr => retN X hx (t := .char) hret (by simp) hd hr
theorem ret_y (X : Stand p l e R s m args below meth c T locs cells slots) (hx : p.tables.exec = Jvm.exec) (hlocks : meth.locks = false) (hret : meth.sig.returnType = some .byte) {pc : Nat} {Ls : Array Slot} {z : Int32} {rest : List Value} {K N : Nat} {Q : Option Value → Heap → List Loc → Prop} (hd : decode c.code pc = .ok (.ireturn, 1)) (hK : cells ≤ K) (hN : slots ≤ N)
    (hQ : Q (some (.int (nar .byte z))) T.heap locs) : Go p e below (Left s K N Q) (T.setTop (mkF m pc Ls (.int z :: rest))) :=
  Go.out X (v := some (.int (nar .byte z))) hlocks (fun h => by rw [hret] at h; cases h) hK hN hQ fun fs hr => retN X hx (t := .byte) hret (by simp) hd hr
theorem ret_i (X : Stand p l e R s m args below meth c T locs cells slots) (hx : p.tables.exec = Jvm.exec) (hlocks : meth.locks = false) (hret : meth.sig.returnType = some .int) {pc : Nat} {Ls : Array Slot} {z : Int32} {rest : List Value} {K N : Nat} {Q : Option Value → Heap → List Loc → Prop} (hd : decode c.code pc = .ok (.ireturn, 1)) (hK : cells ≤ K) (hN : slots ≤ N)
    (hQ : Q (some (.int z)) T.heap locs) : Go p e below (Left s K N Q) (T.setTop (mkF m pc Ls (.int z :: rest))) :=
  Go.out X (v := some (.int z)) hlocks (fun h => by rw [hret] at h; cases h) hK hN hQ fun fs hr => retOut X hx hret rfl (Or.inl ⟨rfl, Or.inl rfl, z, rfl⟩) hd hr
theorem ret_l (X : Stand p l e R s m args below meth c T locs cells slots) (hx : p.tables.exec = Jvm.exec) (hlocks : meth.locks = false) (hret : meth.sig.returnType = some .long) {pc : Nat} {Ls : Array Slot} {z : Int64} {rest : List Value} {K N : Nat} {Q : Option Value → Heap → List Loc → Prop} (hd : decode c.code pc = .ok (.lreturn, 1)) (hK : cells ≤ K) (hN : slots ≤ N)
    (hQ : Q (some (.long z)) T.heap locs) : Go p e below (Left s K N Q) (T.setTop (mkF m pc Ls (.long z :: rest))) :=
  Go.out X (v := some (.long z)) hlocks (fun h => by rw [hret] at h; cases h) hK hN hQ fun fs hr => retOut X hx hret rfl (Or.inr (Or.inl ⟨rfl, rfl, z, rfl⟩)) hd hr
theorem ret_d (X : Stand p l e R s m args below meth c T locs cells slots) (hx : p.tables.exec = Jvm.exec) (hlocks : meth.locks = false) (hret : meth.sig.returnType = some .double) {pc : Nat} {Ls : Array Slot} {z : UInt64} {rest : List Value} {K N : Nat} {Q : Option Value → Heap → List Loc → Prop} (hd : decode c.code pc = .ok (.dreturn, 1)) (hK : cells ≤ K) (hN : slots ≤ N)
    (hQ : Q (some (.double z)) T.heap locs) : Go p e below (Left s K N Q) (T.setTop (mkF m pc Ls (.double z :: rest))) :=
  Go.out X (v := some (.double z)) hlocks (fun h => by rw [hret] at h; cases h) hK hN hQ fun fs hr => retOut X hx hret rfl (Or.inr (Or.inr (Or.inl ⟨rfl, rfl, z, rfl⟩))) hd hr
theorem ret_a (X : Stand p l e R s m args below meth c T locs cells slots) (hx : p.tables.exec = Jvm.exec) (hlocks : meth.locks = false) {t : FieldType} (hret : meth.sig.returnType = some t) (ht : t.isReference = true) {pc : Nat} {Ls : Array Slot} {v : Value} (hv : v.isRef = true) {rest : List Value} {K N : Nat} {Q : Option Value → Heap → List Loc → Prop} (hd : decode c.code pc = .ok (.areturn, 1)) (hK : cells ≤ K) (hN : slots ≤ N)
    (hQ : Q (some v) T.heap locs) : Go p e below (Left s K N Q) (T.setTop (mkF m pc Ls (v :: rest))) :=
  Go.out X (v := some v) hlocks (fun h => by rw [hret] at h; cases h) hK hN hQ fun fs hr => retOut X hx hret (by rcases ref_cases hv with rfl | ⟨a, rfl⟩ <;> cases t <;> first | rfl | cases ht) (Or.inr (Or.inr (Or.inr (Or.inr ⟨rfl, ht, hv⟩)))) hd hr
theorem ret_v (X : Stand p l e R s m args below meth c T locs cells slots) (hx : p.tables.exec = Jvm.exec) (hlocks : meth.locks = false) (hret : meth.sig.returnType = none) {pc : Nat} {Ls : Array Slot} {K N : Nat} {Q : Option Value → Heap → List Loc → Prop} (hd : decode c.code pc = .ok (.return_, 1)) (hK : cells ≤ K) (hN : slots ≤ N)
    (hQ : Q none T.heap locs) : Go p e below (Left s K N Q) (T.setTop (mkF m pc Ls [])) :=
  Go.out X (v := none) hlocks (fun _ => rfl) hK hN hQ fun fs hr => X.returnOut hx hret hd hr
/-- a call of an instance method, by its contract -/
theorem Go.virt (X : Stand p l e R s m args below meth c T locs cells slots) (hx : p.tables.exec = Jvm.exec) (hZ : Z.Warmed39 s.vm) {own C : String} {index : Nat} {y z : MethodName} (hown : s.vm.findClass own = some m.cls) (wl : (Cond.methodLink own index y).before a0 Z = true) (wd : (Cond.declares y).before a0 Z = true) (nf : NotFace s y)
    (wsel : (Cond.selects C y z).before a0 Z = true) (wi : (Cond.instanceMethod z).before a0 Z = true) {bytes : ByteArray} {maxL : Nat} {ret : Option FieldType} (wc : (Cond.code z bytes maxL ret).before a0 Z = true) (wz : (Cond.initialized z.cls).before a0 Z = true) (hy : y.cls ≠ "java/lang/invoke/MethodHandle" ∧ y.cls ≠ "java/lang/invoke/VarHandle")
    {rm : Room} {Q : Option Value → Heap → List Loc → Prop} {b : Addr} {argsL rest : List Value} (P : Pays l z bytes maxL ret rm Z (.ref b :: argsL).toArray h Q) (eT : T.heap = h) (E : Exa Z h b C) {pc : Nat} {Ls : Array Slot} {st : List Value} (hst : st = argsL.reverse ++ .ref b :: rest) (hsz : Ls.size = c.maxLocals) {ps : List FieldType} {r : Option FieldType} (hpd : parseMethodDescriptor y.desc = some ⟨ps, r⟩) (hlen : argsL.length = ps.length)
    (hd : decode c.code pc = .ok (.invokevirtual index, 3)) (W : Nat) (hW : (rest.map fun v => v.category).sum ≤ W) (hf : rm.frames + 1 ≤ R.frames) (hl : W + (maxL + 11) + rm.locals ≤ R.locals) (hc : cells + rm.cells ≤ R.cells) (hs : slots + rm.slots ≤ R.slots)
    (k : ∀ (v : Option Value) (T' : State) (L : List Loc), Stand p l e R s m args below meth c T' (locs ++ L) (cells + rm.cells) (slots + rm.slots) → Q v T'.heap L → Go p e below G (T'.setTop (mkF m (pc + 3) Ls (v.toList ++ rest)))) : Go p e below G (T.setTop (mkF m pc Ls st)) := by
  obtain ⟨cB, kB, hcB, -, hrecv⟩ := isOf hZ eT E
  obtain ⟨v, _, ⟨T', L', k', n'⟩, -, X', ⟨L, hQ, h1, h2, h3⟩, stp⟩ := X.virtualBack hx hown (mvT hZ wl) (mvT hZ wd) nf (mvT hZ wsel) (mvT hZ wi) hy (backOf (W := W) (P []) hZ wc wz hf hl) hcB hrecv (g := mkF m pc Ls st) rfl hsz (Steps.refl _) (argsL := argsL) (rest := rest) (lenOf hpd hlen) hst (by show 2 * 0 + _ ≤ _; omega) hd (fun _ _ => ⟨rfl, eT, hc, hs⟩)
  dsimp only at X' hQ h1 h2 h3 stp
  subst h1 h2 h3
  exact Go.tr stp (k v T' L X' hQ)
/-- a call of an inherited method through a subclass's name, by its contract -/
theorem Go.up (X : Stand p l e R s m args below meth c T locs cells slots) (hx : p.tables.exec = Jvm.exec) (hZ : Z.Warmed39 s.vm) {own C owner : String} {index : Nat} {xm y : MethodName} (hown : s.vm.findClass own = some m.cls) (wl : (Cond.methodLink own index xm).before a0 Z = true) (wsm : (Cond.sameMethod xm.cls owner xm.name xm.desc).before a0 Z = true)
    (wd : (Cond.declares ⟨owner, xm.name, xm.desc⟩).before a0 Z = true) (wsel : (Cond.selects C xm y).before a0 Z = true) (wi : (Cond.instanceMethod y).before a0 Z = true) {bytes : ByteArray} {maxL : Nat} {ret : Option FieldType} (wc : (Cond.code y bytes maxL ret).before a0 Z = true) (wz : (Cond.initialized y.cls).before a0 Z = true) (hy : owner ≠ "java/lang/invoke/MethodHandle" ∧ owner ≠ "java/lang/invoke/VarHandle")
    {rm : Room} {Q : Option Value → Heap → List Loc → Prop} {b : Addr} {argsL rest : List Value} (P : Pays l y bytes maxL ret rm Z (.ref b :: argsL).toArray h Q) (eT : T.heap = h) (E : Exa Z h b C) {pc : Nat} {Ls : Array Slot} {st : List Value} (hst : st = argsL.reverse ++ .ref b :: rest) (hsz : Ls.size = c.maxLocals) {ps : List FieldType} {r : Option FieldType} (hpd : parseMethodDescriptor xm.desc = some ⟨ps, r⟩) (hlen : argsL.length = ps.length)
    (hd : decode c.code pc = .ok (.invokevirtual index, 3)) (W : Nat) (hW : (rest.map fun v => v.category).sum ≤ W) (hf : rm.frames + 1 ≤ R.frames) (hl : W + (maxL + 11) + rm.locals ≤ R.locals) (hc : cells + rm.cells ≤ R.cells) (hs : slots + rm.slots ≤ R.slots)
    (k : ∀ (v : Option Value) (T' : State) (L : List Loc), Stand p l e R s m args below meth c T' (locs ++ L) (cells + rm.cells) (slots + rm.slots) → Q v T'.heap L → Go p e below G (T'.setTop (mkF m (pc + 3) Ls (v.toList ++ rest)))) : Go p e below G (T.setTop (mkF m pc Ls st)) := by
  obtain ⟨cB, kB, hcB, -, hrecv⟩ := isOf hZ eT E
  obtain ⟨v, _, ⟨T', L', k', n'⟩, -, X', ⟨L, hQ, h1, h2, h3⟩, stp⟩ := X.virtualBackUp hx hown (mvT hZ wl) (mvT hZ wsm) (mvT hZ wd) hy (mvT hZ wsel) (mvT hZ wi) (backOf (W := W) (P []) hZ wc wz hf hl) hcB hrecv (g := mkF m pc Ls st) rfl hsz (Steps.refl _) (argsL := argsL) (rest := rest) (lenOf hpd hlen) hst (by show 2 * 0 + _ ≤ _; omega) hd (fun _ _ => ⟨rfl, eT, hc, hs⟩)
  dsimp only at X' hQ h1 h2 h3 stp
  subst h1 h2 h3
  exact Go.tr stp (k v T' L X' hQ)
/-- a call of a private instance method by invokevirtual, by its contract -/
theorem Go.priv (X : Stand p l e R s m args below meth c T locs cells slots) (hx : p.tables.exec = Jvm.exec) (hZ : Z.Warmed39 s.vm) {own C : String} {index : Nat} {y : MethodName} (hown : s.vm.findClass own = some m.cls) (wl : (Cond.methodLink own index y).before a0 Z = true) (wi : (Cond.instanceMethod y).before a0 Z = true)
    (wsel : (Cond.selects y.cls y y).before a0 Z = true) (wp : (Cond.privateMethod y).before a0 Z = true) {bytes : ByteArray} {maxL : Nat} {ret : Option FieldType} (wc : (Cond.code y bytes maxL ret).before a0 Z = true) (wz : (Cond.initialized y.cls).before a0 Z = true) (hy : y.cls ≠ "java/lang/invoke/MethodHandle" ∧ y.cls ≠ "java/lang/invoke/VarHandle")
    {rm : Room} {Q : Option Value → Heap → List Loc → Prop} {b : Addr} {argsL rest : List Value} (P : Pays l y bytes maxL ret rm Z (.ref b :: argsL).toArray h Q) (eT : T.heap = h) (E : Exa Z h b C) {pc : Nat} {Ls : Array Slot} {st : List Value} (hst : st = argsL.reverse ++ .ref b :: rest) (hsz : Ls.size = c.maxLocals) {ps : List FieldType} {r : Option FieldType} (hpd : parseMethodDescriptor y.desc = some ⟨ps, r⟩) (hlen : argsL.length = ps.length)
    (hd : decode c.code pc = .ok (.invokevirtual index, 3)) (W : Nat) (hW : (rest.map fun v => v.category).sum ≤ W) (hf : rm.frames + 1 ≤ R.frames) (hl : W + (maxL + 11) + rm.locals ≤ R.locals) (hc : cells + rm.cells ≤ R.cells) (hs : slots + rm.slots ≤ R.slots)
    (k : ∀ (v : Option Value) (T' : State) (L : List Loc), Stand p l e R s m args below meth c T' (locs ++ L) (cells + rm.cells) (slots + rm.slots) → Q v T'.heap L → Go p e below G (T'.setTop (mkF m (pc + 3) Ls (v.toList ++ rest)))) : Go p e below G (T.setTop (mkF m pc Ls st)) := by
  obtain ⟨cell, hcell, hobj⟩ := E.cell
  obtain ⟨v, _, ⟨T', L', k', n'⟩, -, X', ⟨L, hQ, h1, h2, h3⟩, stp⟩ := X.privateBack hx hown (mvT hZ wl) (mvT hZ wi) (mvT hZ wsel) (Cond.privateMethod_at (mvP (args := args) hZ wp)) (mvT hZ wc) hy (backOf (W := W) (P []) hZ wc wz hf hl) (g := mkF m pc Ls st) rfl hsz (Steps.refl _) (a := b) (by rw [eT]; exact hcell) hobj (argsL := argsL) (rest := rest) (lenOf hpd hlen) hst (by show 2 * 0 + _ ≤ _; omega) hd (fun _ _ => ⟨rfl, eT, hc, hs⟩)
  dsimp only at X' hQ h1 h2 h3 stp
  subst h1 h2 h3
  exact Go.tr stp (k v T' L X' hQ)
/-- a call of an interface's method, by the contract of the method that it goes to -/
theorem Go.face (X : Stand p l e R s m args below meth c T locs cells slots) (hx : p.tables.exec = Jvm.exec) (hZ : Z.Warmed39 s.vm) {own C : String} {index count : Nat} {xi y : MethodName} (hown : s.vm.findClass own = some m.cls) (wl : (Cond.methodLink own index xi).before a0 Z = true) (wd : (Cond.declares xi).before a0 Z = true)
    (wf : (Cond.interfaceMethod xi.cls xi.cls xi.name xi.desc).before args s = true) (wsel : (Cond.selects C xi y).before a0 Z = true) (wi : (Cond.instanceMethod y).before a0 Z = true) (wpub : (Cond.publicMethod y).before a0 Z = true) (wun : (Cond.unhidden C xi.name xi.desc).before a0 Z = true) (wca : (Cond.castable C xi.cls).before a0 Z = true)
    {bytes : ByteArray} {maxL : Nat} {ret : Option FieldType} (wc : (Cond.code y bytes maxL ret).before a0 Z = true) (wz : (Cond.initialized y.cls).before a0 Z = true) (hy : xi.cls ≠ "java/lang/invoke/MethodHandle" ∧ xi.cls ≠ "java/lang/invoke/VarHandle")
    {rm : Room} {Q : Option Value → Heap → List Loc → Prop} {b : Addr} {argsL rest : List Value} (P : Pays l y bytes maxL ret rm Z (.ref b :: argsL).toArray h Q) (eT : T.heap = h) (E : Exa Z h b C) {pc : Nat} {Ls : Array Slot} {st : List Value} (hst : st = argsL.reverse ++ .ref b :: rest) (hsz : Ls.size = c.maxLocals) {ps : List FieldType} {r : Option FieldType} (hpd : parseMethodDescriptor xi.desc = some ⟨ps, r⟩) (hlen : argsL.length = ps.length)
    (hd : decode c.code pc = .ok (.invokeinterface index count, 5)) (W : Nat) (hW : (rest.map fun v => v.category).sum ≤ W) (hf : rm.frames + 1 ≤ R.frames) (hl : W + (maxL + 11) + rm.locals ≤ R.locals) (hc : cells + rm.cells ≤ R.cells) (hs : slots + rm.slots ≤ R.slots)
    (k : ∀ (v : Option Value) (T' : State) (L : List Loc), Stand p l e R s m args below meth c T' (locs ++ L) (cells + rm.cells) (slots + rm.slots) → Q v T'.heap L → Go p e below G (T'.setTop (mkF m (pc + 5) Ls (v.toList ++ rest)))) : Go p e below G (T.setTop (mkF m pc Ls st)) := by
  obtain ⟨cB, kB, hcB, hkB, hrecv⟩ := isOf hZ eT E
  obtain ⟨v, _, ⟨T', L', k', n'⟩, -, X', ⟨L, hQ, h1, h2, h3⟩, stp⟩ := X.interfaceBack hx hown (mvT hZ wl) (mvT hZ wd) wf (mvT hZ wsel) (mvT hZ wi) (mvT hZ wpub) (mvT hZ wun) (mvT hZ wca) hy (backOf (W := W) (P []) hZ wc wz hf hl) hcB hkB hrecv (g := mkF m pc Ls st) rfl hsz (Steps.refl _) (argsL := argsL) (rest := rest) (lenOf hpd hlen) hst (by show 2 * 0 + _ ≤ _; omega) hd (fun _ _ => ⟨rfl, eT, hc, hs⟩)
  dsimp only at X' hQ h1 h2 h3 stp
  subst h1 h2 h3
  exact Go.tr stp (k v T' L X' hQ)
/-- a call of a constructor, by its contract -/
theorem Go.init (X : Stand p l e R s m args below meth c T locs cells slots) (hx : p.tables.exec = Jvm.exec) (hZ : Z.Warmed39 s.vm) {own : String} {index : Nat} {y : MethodName} (hy1 : y.name = "<init>") (hown : s.vm.findClass own = some m.cls) (wl : (Cond.methodLink own index y).before a0 Z = true)
    (wi : (Cond.instanceMethod y).before a0 Z = true) {bytes : ByteArray} {maxL : Nat} (wc : (Cond.code y bytes maxL none).before a0 Z = true) (wz : (Cond.initialized y.cls).before a0 Z = true) (hy : y.cls ≠ "java/lang/invoke/MethodHandle" ∧ y.cls ≠ "java/lang/invoke/VarHandle")
    {rm : Room} {Q : Option Value → Heap → List Loc → Prop} {b : Addr} {argsL rest : List Value} (P : Pays l y bytes maxL none rm Z (.ref b :: argsL).toArray h Q) (eT : T.heap = h) {pc : Nat} {Ls : Array Slot} {st : List Value} (hst : st = argsL.reverse ++ .ref b :: rest) (hsz : Ls.size = c.maxLocals) {ps : List FieldType} {r : Option FieldType} (hpd : parseMethodDescriptor y.desc = some ⟨ps, r⟩) (hlen : argsL.length = ps.length)
    (hd : decode c.code pc = .ok (.invokespecial index, 3)) (W : Nat) (hW : (rest.map fun v => v.category).sum ≤ W) (hf : rm.frames + 1 ≤ R.frames) (hl : W + (maxL + 11) + rm.locals ≤ R.locals) (hc : cells + rm.cells ≤ R.cells) (hs : slots + rm.slots ≤ R.slots)
    (k : ∀ (v : Option Value) (T' : State) (L : List Loc), Stand p l e R s m args below meth c T' (locs ++ L) (cells + rm.cells) (slots + rm.slots) → Q v T'.heap L → Go p e below G (T'.setTop (mkF m (pc + 3) Ls (v.toList ++ rest)))) : Go p e below G (T.setTop (mkF m pc Ls st)) := by
  obtain ⟨v, _, ⟨T', L', k', n'⟩, -, X', ⟨L, hQ, h1, h2, h3⟩, stp⟩ := X.specialBack hx hy1 hown (mvT hZ wl) (mvT hZ wi) (mvT hZ wc) hy (backOf (W := W) (P []) hZ wc wz hf hl) (g := mkF m pc Ls st) rfl hsz (Steps.refl _) (a := b) (argsL := argsL) (rest := rest) (lenOf hpd hlen) hst (by show 2 * 0 + _ ≤ _; omega) hd (fun _ _ => ⟨rfl, eT, hc, hs⟩)
  dsimp only at X' hQ h1 h2 h3 stp
  subst h1 h2 h3
  exact Go.tr stp (k v T' L X' hQ)
/-- a call of a static method, by its contract -/
theorem Go.stat (X : Stand p l e R s m args below meth c T locs cells slots) (hx : p.tables.exec = Jvm.exec) (hZ : Z.Warmed39 s.vm) {own : String} {index : Nat} {y : MethodName} (hown : s.vm.findClass own = some m.cls) (wl : (Cond.methodLink own index y).before a0 Z = true)
    (wst : (Cond.static y).before a0 Z = true) (wz : (Cond.initialized y.cls).before a0 Z = true) {bytes : ByteArray} {maxL : Nat} {ret : Option FieldType} (wc : (Cond.code y bytes maxL ret).before a0 Z = true) (hy : y.cls ≠ "java/lang/invoke/MethodHandle" ∧ y.cls ≠ "java/lang/invoke/VarHandle")
    {rm : Room} {Q : Option Value → Heap → List Loc → Prop} {argsL rest : List Value} (P : Pays l y bytes maxL ret rm Z argsL.toArray h Q) (eT : T.heap = h) {pc : Nat} {Ls : Array Slot} {st : List Value} (hst : st = argsL.reverse ++ rest) (hsz : Ls.size = c.maxLocals) {ps : List FieldType} {r : Option FieldType} (hpd : parseMethodDescriptor y.desc = some ⟨ps, r⟩) (hlen : argsL.length = ps.length)
    (hd : decode c.code pc = .ok (.invokestatic index, 3)) (W : Nat) (hW : (rest.map fun v => v.category).sum ≤ W) (hf : rm.frames + 1 ≤ R.frames) (hl : W + (maxL + 11) + rm.locals ≤ R.locals) (hc : cells + rm.cells ≤ R.cells) (hs : slots + rm.slots ≤ R.slots)
    (k : ∀ (v : Option Value) (T' : State) (L : List Loc), Stand p l e R s m args below meth c T' (locs ++ L) (cells + rm.cells) (slots + rm.slots) → Q v T'.heap L → Go p e below G (T'.setTop (mkF m (pc + 3) Ls (v.toList ++ rest)))) : Go p e below G (T.setTop (mkF m pc Ls st)) := by
  obtain ⟨mk, hnamed⟩ := Cond.named_of_code (mvT (args := args) hZ wc)
  obtain ⟨methM, cM, hmeth, hcode, -, -, -, -, -, hsig⟩ := Cond.code_spec hnamed (mvT (args := args) hZ wc)
  obtain ⟨v, _, ⟨T', L', k', n'⟩, -, X', ⟨L, hQ, h1, h2, h3⟩, stp⟩ := X.staticBack hx hown (mvT hZ wl) (mvT hZ wst) (mvT hZ wz) hnamed hmeth hsig hy (backOf (W := W) (P []) hZ wc wz hf hl) (g := mkF m pc Ls st) rfl hsz (Steps.refl _) (argsL := argsL) (rest := rest) (lenOf hpd hlen) hst (by show 2 * 0 + _ ≤ _; omega) hd (fun _ _ => ⟨rfl, eT, hc, hs⟩)
  dsimp only at X' hQ h1 h2 h3 stp
  subst h1 h2 h3
  exact Go.tr stp (k v T' L X' hQ)
theorem own_alen (X : Stand p l e R s m args below meth c T locs cells slots) (hx : p.tables.exec = Jvm.exec) (hZ : Z.Warmed39 s.vm) (eT : T.heap = h) {a : Addr} {cl : Cell} {ty : FieldType} (A : Arr Z h a cl ty) {z : Int32} (q : cl.slots.size.toInt32 = z) {pc : Nat} {Ls : Array Slot} {st rest : List Value} (hst : st = .ref a :: rest)
    (hd : decode c.code pc = .ok (.arraylength, 1)) (target : State) (k : Steps p.tables e below (T.setTop (mkF m (pc + 1) Ls (.int z :: rest))) target) : Steps p.tables e below (T.setTop (mkF m pc Ls st)) target :=
  X.arraylength hx (by rw [eT]; exact A.1) (State.isArrayOf_alike hZ.alike A.2.1) (g := mkF m pc Ls st) rfl hst hd target (by rw [q]; exact k)
def ObjAt (h : Heap) (x : Addr) : Prop := ∃ cell : Cell, h[x]? = some cell ∧ cell.vm.isStatics = false
theorem own_obj_exa {x : Addr} {C : String} (F : Exa Z h x C) : ObjAt h x := by
  obtain ⟨c1, _, h1, _, _, h4, _⟩ := F
  exact ⟨c1, h1, h4⟩
theorem own_obj_arv {x : Addr} {k : ClassId} {ty : FieldType} {n : Int32} {vs : List Value} {d : Value} (F : Arv Z h x k ty n vs d) : ObjAt h x := by
  obtain ⟨c1, A, _⟩ := F
  exact ⟨c1, A.1, A.plain⟩
theorem own_sta_keep {h' : Heap} {C n d : String} {v : Value} {ws : List Addr} (F : Sta Z h C n d v) (K : Keep h h' ws) (hws : ∀ x ∈ ws, ObjAt h x) : Sta Z h' C n d v := by
  obtain ⟨cf, i, k, f, st, cell, h1, h2, h3, h4, h5, h6, h7⟩ := F
  refine ⟨cf, i, k, f, st, cell, h1, h2, h3, h4, K.2.1 _ _ h5 fun q => ?_, h6, h7⟩
  obtain ⟨c1, g1, g2⟩ := hws _ q
  cases h5.symm.trans g1
  rw [h6] at g2
  cases g2
theorem own_entry {n : Nat} {Ls : Array Slot} (h : Jvm.Sym.laidSlots args.toList ++ List.replicate (n - (Jvm.Sym.laidSlots args.toList).length) .unset = Ls.toList) : entryFrame m args n = mkF m 0 Ls [] := by
  have q : argsToLocals args n = Ls := Array.toList_inj.mp (by rw [Jvm.Sym.argsToLocals_toList]; exact h)
  unfold entryFrame
  rw [q]
theorem own_eqI {first : State} {o : Option Outcome} {idx : List Nat} {a b : Term} {x y : Int32} (ha : a.eval args first o idx s = some (.int x)) (hb : b.eval args first o idx s = some (.int y)) : (Jvm.Cond.eq a b).value args first o s idx = some (decide (x = y)) := by simp [Cond.value, ha, hb]
theorem own_nar_ref {t : FieldType} {v : Value} (hv : v.isRef = true) : narrow t v = v := by
  rcases ref_cases hv with rfl | ⟨a, rfl⟩ <;> cases t <;> rfl
theorem own_fit_ref {t : FieldType} {v : Value} (hv : v.isRef = true) (ht : t.isReference = true := by rfl) : fits t v = true := by
  rcases ref_cases hv with rfl | ⟨a, rfl⟩ <;> cases t <;> first | rfl | cases ht
end OwnGo
theorem dC1_0 : decode prog_19_method_2_code 0 = .ok (.iload_n 0, 1) := by decide +kernel
theorem dC1_1 : decode prog_19_method_2_code 1 = .ok (.ifCond .eq 9, 3) := by decide +kernel
theorem dC1_4 : decode prog_19_method_2_code 4 = .ok (.getstatic 16, 3) := by decide +kernel
theorem dC1_7 : decode prog_19_method_2_code 7 = .ok (.goto 6, 3) := by decide +kernel
theorem dC1_13 : decode prog_19_method_2_code 13 = .ok (.areturn, 1) := by decide +kernel
theorem pn_com_example_sunder_sunder_query_Formulas : plainName "com/example/sunder/sunder/query/Formulas" = true := by first | (simp [plainName, overriddenIn]; done) | decide +kernel
theorem ef_rmC1 (m : MethodId)  : entryFrame m #[(.int (1 : Int32))] 1 = mkF m 0 #[.val (.int (1 : Int32))] [] := by first | exact own_entry rfl | (simp [entryFrame, mkF, argsToLocals, Value.category]; done) | rfl
set_option maxRecDepth 65536 in
set_option maxHeartbeats 40000000 in
theorem rmC1 (l : Launch) (Z : State) (a0 : Array Value) (hw : ∀ d ∈ tables_1, d.before a0 Z = true) (fT fF : Addr) (h0 : Heap) (n0 : Nat) (Z0 : n0 ≤ h0.size) (S_t : Sta Z h0 "com/example/sunder/sunder/query/Formulas" "TRUE" "Lcom/example/sunder/sunder/query/Formula;" (.ref fT)) (S_f : Sta Z h0 "com/example/sunder/sunder/query/Formulas" "FALSE" "Lcom/example/sunder/sunder/query/Formula;" (.ref fF)) :
    Pays l (⟨"com/example/sunder/sunder/query/Formulas", "constant", "(Z)Lcom/example/sunder/sunder/query/Formula;"⟩ : MethodName) prog_19_method_2_code 1 (some (.object "com/example/sunder/sunder/query/Formula")) ({ frames := 0, cells := 0, slots := 0, locals := 0 } : Room) Z #[(.int (1 : Int32))] h0 (fun v h L => v = some (.ref fT) ∧ Fr n0 L ∧ h = h0) := by
  refine Pays.of (plainFor_of_name pn_com_example_sunder_sunder_query_Formulas) ?_
  intro pP eE sS m below methM cC T hx hby hml hret hlk hZ hown hnm eT X
  replace hown : sS.vm.findClass "com/example/sunder/sunder/query/Formulas" = some m.cls := hown
  have N0 := Fr.nil n0
  refine Go.cast (ef_rmC1 m ) ?_
  refine Go.st (S' := T.setTop (mkF m 1 #[.val (.int (1 : Int32))] [(.int (1 : Int32))])) (fun t kt => XS.iloadN X.here hx rfl (hb hby dC1_0) rfl kt) ?_
  refine Go.st (S' := T.setTop (mkF m 4 #[.val (.int (1 : Int32))] [])) (fun t kt => XS.ifNo X.here hx rfl (hb hby dC1_1) rfl (XT.i0_eq_f (by decide)) kt) ?_
  obtain ⟨T1, X1, e1, st1⟩ := getS X hx hZ (host := "") hown (hw _ (List.mem_of_getElem? (i := 6) rfl)) Via.refl eT S_t (g := (mkF m 4 #[.val (.int (1 : Int32))] [])) rfl (hb hby dC1_4)
  refine Go.st (S' := T1.setTop (mkF m 7 #[.val (.int (1 : Int32))] [(.ref fT)])) (fun t kt => st1 t kt) ?_
  refine Go.st (S' := T1.setTop (mkF m 13 #[.val (.int (1 : Int32))] [(.ref fT)])) (fun t kt => XS.goto X1.here hx rfl (pc0 := 7) (pc' := 13) rfl (hb hby dC1_7) (by decide) (by decide) kt) ?_
  exact ret_a X1 hx hlk hret rfl rfl (hb hby dC1_13) (by decide) (by decide) (⟨rfl, N0, e1⟩)
theorem dC0_0 : decode prog_19_method_2_code 0 = .ok (.iload_n 0, 1) := by decide +kernel
theorem dC0_1 : decode prog_19_method_2_code 1 = .ok (.ifCond .eq 9, 3) := by decide +kernel
theorem dC0_10 : decode prog_19_method_2_code 10 = .ok (.getstatic 20, 3) := by decide +kernel
theorem dC0_13 : decode prog_19_method_2_code 13 = .ok (.areturn, 1) := by decide +kernel
theorem ef_rmC0 (m : MethodId)  : entryFrame m #[(.int (0 : Int32))] 1 = mkF m 0 #[.val (.int (0 : Int32))] [] := by first | exact own_entry rfl | (simp [entryFrame, mkF, argsToLocals, Value.category]; done) | rfl
set_option maxRecDepth 65536 in
set_option maxHeartbeats 40000000 in
theorem rmC0 (l : Launch) (Z : State) (a0 : Array Value) (hw : ∀ d ∈ tables_1, d.before a0 Z = true) (fT fF : Addr) (h0 : Heap) (n0 : Nat) (Z0 : n0 ≤ h0.size) (S_t : Sta Z h0 "com/example/sunder/sunder/query/Formulas" "TRUE" "Lcom/example/sunder/sunder/query/Formula;" (.ref fT)) (S_f : Sta Z h0 "com/example/sunder/sunder/query/Formulas" "FALSE" "Lcom/example/sunder/sunder/query/Formula;" (.ref fF)) :
    Pays l (⟨"com/example/sunder/sunder/query/Formulas", "constant", "(Z)Lcom/example/sunder/sunder/query/Formula;"⟩ : MethodName) prog_19_method_2_code 1 (some (.object "com/example/sunder/sunder/query/Formula")) ({ frames := 0, cells := 0, slots := 0, locals := 0 } : Room) Z #[(.int (0 : Int32))] h0 (fun v h L => v = some (.ref fF) ∧ Fr n0 L ∧ h = h0) := by
  refine Pays.of (plainFor_of_name pn_com_example_sunder_sunder_query_Formulas) ?_
  intro pP eE sS m below methM cC T hx hby hml hret hlk hZ hown hnm eT X
  replace hown : sS.vm.findClass "com/example/sunder/sunder/query/Formulas" = some m.cls := hown
  have N0 := Fr.nil n0
  refine Go.cast (ef_rmC0 m ) ?_
  refine Go.st (S' := T.setTop (mkF m 1 #[.val (.int (0 : Int32))] [(.int (0 : Int32))])) (fun t kt => XS.iloadN X.here hx rfl (hb hby dC0_0) rfl kt) ?_
  refine Go.st (S' := T.setTop (mkF m 10 #[.val (.int (0 : Int32))] [])) (fun t kt => XS.ifYes X.here hx rfl (pc0 := 1) (pc' := 10) rfl (hb hby dC0_1) rfl (XT.i0_eq_t (by decide)) (by decide) (by decide) kt) ?_
  obtain ⟨T1, X1, e1, st1⟩ := getS X hx hZ (host := "") hown (hw _ (List.mem_of_getElem? (i := 4) rfl)) Via.refl eT S_f (g := (mkF m 10 #[.val (.int (0 : Int32))] [])) rfl (hb hby dC0_10)
  refine Go.st (S' := T1.setTop (mkF m 13 #[.val (.int (0 : Int32))] [(.ref fF)])) (fun t kt => st1 t kt) ?_
  exact ret_a X1 hx hlk hret rfl rfl (hb hby dC0_13) (by decide) (by decide) (⟨rfl, N0, e1⟩)
theorem dIT_0 : decode prog_16_method_2_code 0 = .ok (.aload_n 0, 1) := by decide +kernel
theorem dIT_1 : decode prog_16_method_2_code 1 = .ok (.getfield 7, 3) := by decide +kernel
theorem dIT_4 : decode prog_16_method_2_code 4 = .ok (.getstatic 35, 3) := by decide +kernel
theorem dIT_7 : decode prog_16_method_2_code 7 = .ok (.if_acmp .eq 13, 3) := by decide +kernel
theorem dIT_20 : decode prog_16_method_2_code 20 = .ok (.iconst 1, 1) := by decide +kernel
theorem dIT_21 : decode prog_16_method_2_code 21 = .ok (.goto 4, 3) := by decide +kernel
theorem dIT_25 : decode prog_16_method_2_code 25 = .ok (.ireturn, 1) := by decide +kernel
theorem pn_com_example_sunder_sunder_query_Formula : plainName "com/example/sunder/sunder/query/Formula" = true := by first | (simp [plainName, overriddenIn]; done) | decide +kernel
theorem ef_rmIT (m : MethodId) (a : Addr) : entryFrame m #[(.ref a)] 1 = mkF m 0 #[.val (.ref a)] [] := by first | exact own_entry rfl | (simp [entryFrame, mkF, argsToLocals, Value.category]; done) | rfl
set_option maxRecDepth 65536 in
set_option maxHeartbeats 40000000 in
theorem rmIT (l : Launch) (Z : State) (a0 : Array Value) (hw : ∀ d ∈ tables_1, d.before a0 Z = true) (a kT kF : Addr) (h0 : Heap) (n0 : Nat) (Z0 : n0 ≤ h0.size) (S_kt : Sta Z h0 "com/example/sunder/sunder/query/Formula$Kind" "TRUE" "Lcom/example/sunder/sunder/query/Formula$Kind;" (.ref kT)) (S_kf : Sta Z h0 "com/example/sunder/sunder/query/Formula$Kind" "FALSE" "Lcom/example/sunder/sunder/query/Formula$Kind;" (.ref kF)) (F_k : Fld Z h0 a "com/example/sunder/sunder/query/Formula" "kind" "Lcom/example/sunder/sunder/query/Formula$Kind;" (.ref kT)) (hne : kT ≠ kF) :
    Pays l (⟨"com/example/sunder/sunder/query/Formula", "isConstant", "()Z"⟩ : MethodName) prog_16_method_2_code 1 (some .boolean) ({ frames := 0, cells := 0, slots := 0, locals := 0 } : Room) Z #[(.ref a)] h0 (fun v h L => v = some (.int 1) ∧ Fr n0 L ∧ h = h0) := by
  refine Pays.of (plainFor_of_name pn_com_example_sunder_sunder_query_Formula) ?_
  intro pP eE sS m below methM cC T hx hby hml hret hlk hZ hown hnm eT X
  replace hown : sS.vm.findClass "com/example/sunder/sunder/query/Formula" = some m.cls := hown
  have N0 := Fr.nil n0
  refine Go.cast (ef_rmIT m a) ?_
  refine Go.st (S' := T.setTop (mkF m 1 #[.val (.ref a)] [(.ref a)])) (fun t kt => XS.aloadN X.here hx rfl (hb hby dIT_0) rfl rfl kt) ?_
  obtain ⟨T1, X1, e1, st1⟩ := getF X hx hZ hown (host := "") (Or.inl (hw _ (List.mem_of_getElem? (i := 15) rfl))) Via.refl eT F_k (g := (mkF m 1 #[.val (.ref a)] [(.ref a)])) rfl rfl (hb hby dIT_1)
  refine Go.st (S' := T1.setTop (mkF m 4 #[.val (.ref a)] [(.ref kT)])) (fun t kt => st1 t kt) ?_
  obtain ⟨T2, X2, e2, st2⟩ := getS X1 hx hZ (host := "") hown (hw _ (List.mem_of_getElem? (i := 19) rfl)) Via.refl e1 S_kt (g := (mkF m 4 #[.val (.ref a)] [(.ref kT)])) rfl (hb hby dIT_4)
  refine Go.st (S' := T2.setTop (mkF m 7 #[.val (.ref a)] [(.ref kT), (.ref kT)])) (fun t kt => st2 t kt) ?_
  refine Go.st (S' := T2.setTop (mkF m 20 #[.val (.ref a)] [])) (fun t kt => XT.acmpYes X2.here hx rfl (pc0 := 7) (pc' := 20) rfl (hb hby dIT_7) rfl rfl rfl (XT.aa_eq_t rfl) (by decide) (by decide) kt) ?_
  refine Go.st (S' := T2.setTop (mkF m 21 #[.val (.ref a)] [(.int (1 : Int32))])) (fun t kt => XS.iconst X2.here hx rfl (hb hby dIT_20) kt) ?_
  refine Go.st (S' := T2.setTop (mkF m 25 #[.val (.ref a)] [(.int (1 : Int32))])) (fun t kt => XS.goto X2.here hx rfl (pc0 := 21) (pc' := 25) rfl (hb hby dIT_21) (by decide) (by decide) kt) ?_
  exact ret_b X2 hx hlk hret (hb hby dIT_25) (by decide) (by decide) (⟨rfl, N0, e2⟩)
theorem dIF_0 : decode prog_16_method_2_code 0 = .ok (.aload_n 0, 1) := by decide +kernel
theorem dIF_1 : decode prog_16_method_2_code 1 = .ok (.getfield 7, 3) := by decide +kernel
theorem dIF_4 : decode prog_16_method_2_code 4 = .ok (.getstatic 35, 3) := by decide +kernel
theorem dIF_7 : decode prog_16_method_2_code 7 = .ok (.if_acmp .eq 13, 3) := by decide +kernel
theorem dIF_10 : decode prog_16_method_2_code 10 = .ok (.aload_n 0, 1) := by decide +kernel
theorem dIF_11 : decode prog_16_method_2_code 11 = .ok (.getfield 7, 3) := by decide +kernel
theorem dIF_14 : decode prog_16_method_2_code 14 = .ok (.getstatic 40, 3) := by decide +kernel
theorem dIF_17 : decode prog_16_method_2_code 17 = .ok (.if_acmp .ne 7, 3) := by decide +kernel
theorem dIF_20 : decode prog_16_method_2_code 20 = .ok (.iconst 1, 1) := by decide +kernel
theorem dIF_21 : decode prog_16_method_2_code 21 = .ok (.goto 4, 3) := by decide +kernel
theorem dIF_25 : decode prog_16_method_2_code 25 = .ok (.ireturn, 1) := by decide +kernel
theorem ef_rmIF (m : MethodId) (a : Addr) : entryFrame m #[(.ref a)] 1 = mkF m 0 #[.val (.ref a)] [] := by first | exact own_entry rfl | (simp [entryFrame, mkF, argsToLocals, Value.category]; done) | rfl
set_option maxRecDepth 65536 in
set_option maxHeartbeats 40000000 in
theorem rmIF (l : Launch) (Z : State) (a0 : Array Value) (hw : ∀ d ∈ tables_1, d.before a0 Z = true) (a kT kF : Addr) (h0 : Heap) (n0 : Nat) (Z0 : n0 ≤ h0.size) (S_kt : Sta Z h0 "com/example/sunder/sunder/query/Formula$Kind" "TRUE" "Lcom/example/sunder/sunder/query/Formula$Kind;" (.ref kT)) (S_kf : Sta Z h0 "com/example/sunder/sunder/query/Formula$Kind" "FALSE" "Lcom/example/sunder/sunder/query/Formula$Kind;" (.ref kF)) (F_k : Fld Z h0 a "com/example/sunder/sunder/query/Formula" "kind" "Lcom/example/sunder/sunder/query/Formula$Kind;" (.ref kF)) (hne : kT ≠ kF) :
    Pays l (⟨"com/example/sunder/sunder/query/Formula", "isConstant", "()Z"⟩ : MethodName) prog_16_method_2_code 1 (some .boolean) ({ frames := 0, cells := 0, slots := 0, locals := 0 } : Room) Z #[(.ref a)] h0 (fun v h L => v = some (.int 1) ∧ Fr n0 L ∧ h = h0) := by
  refine Pays.of (plainFor_of_name pn_com_example_sunder_sunder_query_Formula) ?_
  intro pP eE sS m below methM cC T hx hby hml hret hlk hZ hown hnm eT X
  replace hown : sS.vm.findClass "com/example/sunder/sunder/query/Formula" = some m.cls := hown
  have N0 := Fr.nil n0
  refine Go.cast (ef_rmIF m a) ?_
  refine Go.st (S' := T.setTop (mkF m 1 #[.val (.ref a)] [(.ref a)])) (fun t kt => XS.aloadN X.here hx rfl (hb hby dIF_0) rfl rfl kt) ?_
  obtain ⟨T1, X1, e1, st1⟩ := getF X hx hZ hown (host := "") (Or.inl (hw _ (List.mem_of_getElem? (i := 15) rfl))) Via.refl eT F_k (g := (mkF m 1 #[.val (.ref a)] [(.ref a)])) rfl rfl (hb hby dIF_1)
  refine Go.st (S' := T1.setTop (mkF m 4 #[.val (.ref a)] [(.ref kF)])) (fun t kt => st1 t kt) ?_
  obtain ⟨T2, X2, e2, st2⟩ := getS X1 hx hZ (host := "") hown (hw _ (List.mem_of_getElem? (i := 19) rfl)) Via.refl e1 S_kt (g := (mkF m 4 #[.val (.ref a)] [(.ref kF)])) rfl (hb hby dIF_4)
  refine Go.st (S' := T2.setTop (mkF m 7 #[.val (.ref a)] [(.ref kT), (.ref kF)])) (fun t kt => st2 t kt) ?_
  refine Go.st (S' := T2.setTop (mkF m 10 #[.val (.ref a)] [])) (fun t kt => XT.acmpNo X2.here hx rfl (hb hby dIF_7) rfl rfl rfl (XT.aa_eq_f (fun q => hne (Value.ref.inj q).symm)) kt) ?_
  refine Go.st (S' := T2.setTop (mkF m 11 #[.val (.ref a)] [(.ref a)])) (fun t kt => XS.aloadN X2.here hx rfl (hb hby dIF_10) rfl rfl kt) ?_
  obtain ⟨T3, X3, e3, st3⟩ := getF X2 hx hZ hown (host := "") (Or.inl (hw _ (List.mem_of_getElem? (i := 15) rfl))) Via.refl e2 F_k (g := (mkF m 11 #[.val (.ref a)] [(.ref a)])) rfl rfl (hb hby dIF_11)
  refine Go.st (S' := T3.setTop (mkF m 14 #[.val (.ref a)] [(.ref kF)])) (fun t kt => st3 t kt) ?_
  obtain ⟨T4, X4, e4, st4⟩ := getS X3 hx hZ (host := "") hown (hw _ (List.mem_of_getElem? (i := 21) rfl)) Via.refl e3 S_kf (g := (mkF m 14 #[.val (.ref a)] [(.ref kF)])) rfl (hb hby dIF_14)
  refine Go.st (S' := T4.setTop (mkF m 17 #[.val (.ref a)] [(.ref kF), (.ref kF)])) (fun t kt => st4 t kt) ?_
  refine Go.st (S' := T4.setTop (mkF m 20 #[.val (.ref a)] [])) (fun t kt => XT.acmpNo X4.here hx rfl (hb hby dIF_17) rfl rfl rfl (XT.aa_ne_f rfl) kt) ?_
  refine Go.st (S' := T4.setTop (mkF m 21 #[.val (.ref a)] [(.int (1 : Int32))])) (fun t kt => XS.iconst X4.here hx rfl (hb hby dIF_20) kt) ?_
  refine Go.st (S' := T4.setTop (mkF m 25 #[.val (.ref a)] [(.int (1 : Int32))])) (fun t kt => XS.goto X4.here hx rfl (pc0 := 21) (pc' := 25) rfl (hb hby dIF_21) (by decide) (by decide) kt) ?_
  exact ret_b X4 hx hlk hret (hb hby dIF_25) (by decide) (by decide) (⟨rfl, N0, e4⟩)
theorem dAM_0 : decode jdk_71_method_1_code 0 = .ok (.aload_n 0, 1) := by decide +kernel
theorem dAM_1 : decode jdk_71_method_1_code 1 = .ok (.invokespecial 1, 3) := by decide +kernel
theorem dAM_4 : decode jdk_71_method_1_code 4 = .ok (.return_, 1) := by decide +kernel
theorem pn_java_util_AbstractMap : plainName "java/util/AbstractMap" = true := by first | (simp [plainName, overriddenIn]; done) | decide +kernel
theorem ef_rmAM (m : MethodId) (a : Addr) : entryFrame m #[(.ref a)] 1 = mkF m 0 #[.val (.ref a)] [] := by first | exact own_entry rfl | (simp [entryFrame, mkF, argsToLocals, Value.category]; done) | rfl
set_option maxRecDepth 65536 in
set_option maxHeartbeats 40000000 in
theorem rmAM (l : Launch) (Z : State) (a0 : Array Value) (hw : ∀ d ∈ tables_1, d.before a0 Z = true) (a : Addr) (h0 : Heap) (n0 : Nat) (Z0 : n0 ≤ h0.size) :
    Pays l (⟨"java/util/AbstractMap", "<init>", "()V"⟩ : MethodName) jdk_71_method_1_code 1 none ({ frames := 1, cells := 0, slots := 0, locals := 12 } : Room) Z #[(.ref a)] h0 (fun v h L => v = none ∧ Fr n0 L ∧ h = h0) := by
  refine Pays.of (plainFor_of_name pn_java_util_AbstractMap) ?_
  intro pP eE sS m below methM cC T hx hby hml hret hlk hZ hown hnm eT X
  replace hown : sS.vm.findClass "java/util/AbstractMap" = some m.cls := hown
  have N0 := Fr.nil n0
  refine Go.cast (ef_rmAM m a) ?_
  refine Go.st (S' := T.setTop (mkF m 1 #[.val (.ref a)] [(.ref a)])) (fun t kt => XS.aloadN X.here hx rfl (hb hby dAM_0) rfl rfl kt) ?_
  obtain ⟨T1, X1, e1, st1⟩ := initO X hx hZ hown (hw _ (List.mem_of_getElem? (i := 44) rfl)) (hw _ (List.mem_of_getElem? (i := 30) rfl)) (hw _ (List.mem_of_getElem? (i := 31) rfl)) eT (g := (mkF m 1 #[.val (.ref a)] [(.ref a)])) rfl (by rw [hml]; rfl) rfl (hb hby dAM_1) (by decide) (W := 0) (by show 2 * 0 + _ ≤ _; exact Nat.le_of_eq rfl) (by decide)
  refine Go.st (S' := T1.setTop (mkF m 4 #[.val (.ref a)] [])) (fun t kt => st1 t kt) ?_
  exact ret_v X1 hx hlk hret (hb hby dAM_4) (by decide) (by decide) (⟨rfl, N0, e1⟩)
theorem dHM_0 : decode jdk_69_method_7_code 0 = .ok (.aload_n 0, 1) := by decide +kernel
theorem dHM_1 : decode jdk_69_method_7_code 1 = .ok (.invokespecial 43, 3) := by decide +kernel
theorem dHM_4 : decode jdk_69_method_7_code 4 = .ok (.aload_n 0, 1) := by decide +kernel
theorem dHM_5 : decode jdk_69_method_7_code 5 = .ok (.ldc 92, 2) := by decide +kernel
theorem dHM_7 : decode jdk_69_method_7_code 7 = .ok (.putfield 81, 3) := by decide +kernel
theorem dHM_10 : decode jdk_69_method_7_code 10 = .ok (.return_, 1) := by decide +kernel
theorem pd___V : parseMethodDescriptor "()V" = some ⟨[], none⟩ := by decide +kernel
theorem pn_java_util_HashMap : plainName "java/util/HashMap" = true := by first | (simp [plainName, overriddenIn]; done) | decide +kernel
theorem ef_rmHM (m : MethodId) (a : Addr) : entryFrame m #[(.ref a)] 1 = mkF m 0 #[.val (.ref a)] [] := by first | exact own_entry rfl | (simp [entryFrame, mkF, argsToLocals, Value.category]; done) | rfl
set_option maxRecDepth 65536 in
set_option maxHeartbeats 40000000 in
theorem rmHM (l : Launch) (Z : State) (a0 : Array Value) (hw : ∀ d ∈ tables_1, d.before a0 Z = true) (a : Addr) (h0 : Heap) (n0 : Nat) (Z0 : n0 ≤ h0.size) (E_a : Exa Z h0 a "java/util/HashMap") (ha : n0 ≤ a) (F_l : Fld Z h0 a "java/util/HashMap" "loadFactor" "F" (.float (0 : UInt32))) :
    Pays l (⟨"java/util/HashMap", "<init>", "()V"⟩ : MethodName) jdk_69_method_7_code 1 none ({ frames := 2, cells := 0, slots := 0, locals := 24 } : Room) Z #[(.ref a)] h0 (fun v h L => v = none ∧ Fr n0 L ∧ Keep h0 h [a] ∧ Exa Z h a "java/util/HashMap") := by
  refine Pays.of (plainFor_of_name pn_java_util_HashMap) ?_
  intro pP eE sS m below methM cC T hx hby hml hret hlk hZ hown hnm eT X
  replace hown : sS.vm.findClass "java/util/HashMap" = some m.cls := hown
  have N0 := Fr.nil n0
  have K0 := Keep.refl h0 [a]
  refine Go.cast (ef_rmHM m a) ?_
  refine Go.st (S' := T.setTop (mkF m 1 #[.val (.ref a)] [(.ref a)])) (fun t kt => XS.aloadN X.here hx rfl (hb hby dHM_0) rfl rfl kt) ?_
  refine Go.init X hx hZ rfl hown (hw _ (List.mem_of_getElem? (i := 38) rfl)) (hw _ (List.mem_of_getElem? (i := 39) rfl)) (hw _ (List.mem_of_getElem? (i := 43) rfl)) (hw _ (List.mem_of_getElem? (i := 42) rfl)) (by decide) (b := a) (argsL := []) (rest := []) (rmAM l Z a0 hw a h0 n0 Z0) eT rfl (by rw [hml]; rfl) pd___V rfl (hb hby dHM_1) 0 (Nat.le_refl _) (by decide) (by decide) (by decide) (by decide) ?_
  intro v1 T1 L1 X1 hQ1
  obtain ⟨hv1, N1', e1⟩ := hQ1
  subst hv1
  have N1 := Fr.app N0 N1'
  show Go pP eE below _ (T1.setTop (mkF m 4 #[.val (.ref a)] []))
  refine Go.st (S' := T1.setTop (mkF m 5 #[.val (.ref a)] [(.ref a)])) (fun t kt => XS.aloadN X1.here hx rfl (hb hby dHM_4) rfl rfl kt) ?_
  refine Go.st (S' := T1.setTop (mkF m 7 #[.val (.ref a)] [(.float (1061158912 : UInt32)), (.ref a)])) (fun t kt => X1.ldcFloatC hx hown (mv hZ (hw _ (List.mem_of_getElem? (i := 45) rfl))) (g := (mkF m 5 #[.val (.ref a)] [(.ref a)])) rfl (hb hby dHM_5) t kt) ?_
  obtain ⟨T2, h2, X2, e2, W2, st2⟩ := putF X1 hx hZ hown (host := "") (Or.inl (hw _ (List.mem_of_getElem? (i := 46) rfl))) Via.refl e1 F_l E_a (Or.inr ⟨(hw _ (List.mem_of_getElem? (i := 47) rfl)), rfl, hnm⟩) (hw _ (List.mem_of_getElem? (i := 33) rfl)) (ty := .float) (by decide) rfl rfl (g := (mkF m 7 #[.val (.ref a)] [(.float (1061158912 : UInt32)), (.ref a)])) rfl rfl (hb hby dHM_7)
  have F2 := Fld.same W2 F_l
  have N2 := Fr.snoc X2 N1 ha
  have Z2 : n0 ≤ h2.size := by rw [Wr.size W2]; exact Z0
  have K2 := Keep.wr K0 W2 (Or.inl (List.mem_of_getElem? (i := 0) rfl))
  refine Go.st (S' := T2.setTop (mkF m 10 #[.val (.ref a)] [])) (fun t kt => st2 t kt) ?_
  have f3 := (Exa.wr W2 E_a)
  exact ret_v X2 hx hlk hret (hb hby dHM_10) (by decide) (by decide) (by rw [e2]; exact ⟨rfl, N2, K2, f3⟩)
theorem dFI_0 : decode prog_19_method_1_code 0 = .ok (.aload_n 0, 1) := by decide +kernel
theorem dFI_1 : decode prog_19_method_1_code 1 = .ok (.invokespecial 1, 3) := by decide +kernel
theorem dFI_4 : decode prog_19_method_1_code 4 = .ok (.aload_n 0, 1) := by decide +kernel
theorem dFI_5 : decode prog_19_method_1_code 5 = .ok (.new 7, 3) := by decide +kernel
theorem dFI_8 : decode prog_19_method_1_code 8 = .ok (.dup, 1) := by decide +kernel
theorem dFI_9 : decode prog_19_method_1_code 9 = .ok (.invokespecial 9, 3) := by decide +kernel
theorem dFI_12 : decode prog_19_method_1_code 12 = .ok (.putfield 10, 3) := by decide +kernel
theorem dFI_15 : decode prog_19_method_1_code 15 = .ok (.return_, 1) := by decide +kernel
theorem ef_rmFI (m : MethodId) (a : Addr) : entryFrame m #[(.ref a)] 1 = mkF m 0 #[.val (.ref a)] [] := by first | exact own_entry rfl | (simp [entryFrame, mkF, argsToLocals, Value.category]; done) | rfl
set_option maxRecDepth 65536 in
set_option maxHeartbeats 40000000 in
theorem rmFI (l : Launch) (Z : State) (a0 : Array Value) (hw : ∀ d ∈ tables_1, d.before a0 Z = true) (a : Addr) (h0 : Heap) (n0 : Nat) (Z0 : n0 ≤ h0.size) (E_a : Exa Z h0 a "com/example/sunder/sunder/query/Formulas") (ha : n0 ≤ a) (F_i : Fld Z h0 a "com/example/sunder/sunder/query/Formulas" "interned" "Ljava/util/Map;" .null) :
    Pays l (⟨"com/example/sunder/sunder/query/Formulas", "<init>", "()V"⟩ : MethodName) prog_19_method_1_code 1 none ({ frames := 3, cells := 1, slots := 8, locals := 38 } : Room) Z #[(.ref a)] h0 (fun v h L => v = none ∧ Fr n0 L ∧ Keep h0 h [a] ∧ Exa Z h a "com/example/sunder/sunder/query/Formulas") := by
  refine Pays.of (plainFor_of_name pn_com_example_sunder_sunder_query_Formulas) ?_
  intro pP eE sS m below methM cC T hx hby hml hret hlk hZ hown hnm eT X
  replace hown : sS.vm.findClass "com/example/sunder/sunder/query/Formulas" = some m.cls := hown
  have N0 := Fr.nil n0
  have K0 := Keep.refl h0 [a]
  refine Go.cast (ef_rmFI m a) ?_
  refine Go.st (S' := T.setTop (mkF m 1 #[.val (.ref a)] [(.ref a)])) (fun t kt => XS.aloadN X.here hx rfl (hb hby dFI_0) rfl rfl kt) ?_
  obtain ⟨T1, X1, e1, st1⟩ := initO X hx hZ hown (hw _ (List.mem_of_getElem? (i := 29) rfl)) (hw _ (List.mem_of_getElem? (i := 30) rfl)) (hw _ (List.mem_of_getElem? (i := 31) rfl)) eT (g := (mkF m 1 #[.val (.ref a)] [(.ref a)])) rfl (by rw [hml]; rfl) rfl (hb hby dFI_1) (by decide) (W := 0) (by show 2 * 0 + _ ≤ _; exact Nat.le_of_eq rfl) (by decide)
  refine Go.st (S' := T1.setTop (mkF m 4 #[.val (.ref a)] [])) (fun t kt => st1 t kt) ?_
  refine Go.st (S' := T1.setTop (mkF m 5 #[.val (.ref a)] [(.ref a)])) (fun t kt => XS.aloadN X1.here hx rfl (hb hby dFI_4) rfl rfl kt) ?_
  obtain ⟨T2, h2, X2, e2, E2, A2, D2, -, st2⟩ := newO X1 hx hZ hown (hw _ (List.mem_of_getElem? (i := 32) rfl)) (hw _ (List.mem_of_getElem? (i := 33) rfl)) (hw _ (List.mem_of_getElem? (i := 34) rfl)) e1 (g := (mkF m 5 #[.val (.ref a)] [(.ref a)])) rfl (hb hby dFI_5) (by decide) (by decide)
  obtain ⟨a2, g2⟩ : ∃ z, z = h0.size := ⟨_, rfl⟩
  rw [← g2] at A2 D2 st2
  have Z2 : n0 ≤ h2.size := Nat.le_trans Z0 E2.1
  have F2_loadFactor : Fld Z h2 a2 "java/util/HashMap" "loadFactor" "F" (.float (0 : UInt32)) := D2 (Or.inr (hw _ (List.mem_of_getElem? (i := 47) rfl))) (ty := .float) (by decide)
  have K2 := Keep.ext K0 E2
  have sz_a2 : h0.size ≤ a2 := Nat.le_trans K0.1 (Nat.le_of_eq g2.symm)
  refine Go.st (S' := T2.setTop (mkF m 8 #[.val (.ref a)] [(.ref a2), (.ref a)])) (fun t kt => st2 t kt) ?_
  refine Go.st (S' := T2.setTop (mkF m 9 #[.val (.ref a)] [(.ref a2), (.ref a2), (.ref a)])) (fun t kt => XS.dup X2.here hx rfl (hb hby dFI_8) rfl rfl kt) ?_
  refine Go.init X2 hx hZ rfl hown (hw _ (List.mem_of_getElem? (i := 35) rfl)) (hw _ (List.mem_of_getElem? (i := 36) rfl)) (hw _ (List.mem_of_getElem? (i := 37) rfl)) (hw _ (List.mem_of_getElem? (i := 34) rfl)) (by decide) (b := a2) (argsL := []) (rest := [(.ref a2), (.ref a)]) (rmHM l Z a0 hw a2 h2 n0 Z2 A2 (Nat.le_trans Z0 (Nat.le_of_eq g2.symm)) F2_loadFactor) e2 rfl (by rw [hml]; rfl) pd___V rfl (hb hby dFI_9) 2 (Nat.le_refl _) (by decide) (by decide) (by decide) (by decide) ?_
  intro v3 T3 L3 X3 hQ3
  have f4 := (E_a.ext E2)
  obtain ⟨hv3, N3', K3', f3_0⟩ := hQ3
  subst hv3
  have N3 := Fr.app N0 N3'
  have Z3 : n0 ≤ T3.heap.size := Nat.le_trans Z2 K3'.1
  have eh3 : T3.heap = T3.heap := rfl
  have K3 := Keep.trans K2 K3' (allS (Or.inr sz_a2) all0)
  show Go pP eE below _ (T3.setTop (mkF m 12 #[.val (.ref a)] [(.ref a2), (.ref a)]))
  have f5 := ((F_i.ext E2).keep K3' (ninS (Nat.ne_of_lt (by rw [g2]; exact E_a.lt)) nin0))
  have f6 := (f4.keep K3')
  obtain ⟨T7, h7, X7, e7, W7, st7⟩ := putF X3 hx hZ hown (host := "") (Or.inl (hw _ (List.mem_of_getElem? (i := 48) rfl))) Via.refl eh3 f5 f6 (Or.inr ⟨(hw _ (List.mem_of_getElem? (i := 49) rfl)), rfl, hnm⟩) (hw _ (List.mem_of_getElem? (i := 25) rfl)) (ty := (.object "java/util/Map")) (by decide) rfl rfl (g := (mkF m 12 #[.val (.ref a)] [(.ref a2), (.ref a)])) rfl rfl (hb hby dFI_12)
  have F7 := Fld.same W7 f5
  have N7 := Fr.snoc X7 N3 ha
  have Z7 : n0 ≤ h7.size := by rw [Wr.size W7]; exact Z3
  have K7 := Keep.wr K3 W7 (Or.inl (List.mem_of_getElem? (i := 0) rfl))
  refine Go.st (S' := T7.setTop (mkF m 15 #[.val (.ref a)] [])) (fun t kt => st7 t kt) ?_
  have f8 := (Exa.wr W7 f6)
  exact ret_v X7 hx hlk hret (hb hby dFI_15) (by decide) (by decide) (by rw [e7]; exact ⟨rfl, N7, K7, f8⟩)
theorem dDI_0 : decode prog_21_method_1_code 0 = .ok (.aload_n 0, 1) := by decide +kernel
theorem dDI_1 : decode prog_21_method_1_code 1 = .ok (.invokespecial 1, 3) := by decide +kernel
theorem dDI_4 : decode prog_21_method_1_code 4 = .ok (.aload_n 0, 1) := by decide +kernel
theorem dDI_5 : decode prog_21_method_1_code 5 = .ok (.new 7, 3) := by decide +kernel
theorem dDI_8 : decode prog_21_method_1_code 8 = .ok (.dup, 1) := by decide +kernel
theorem dDI_9 : decode prog_21_method_1_code 9 = .ok (.invokespecial 9, 3) := by decide +kernel
theorem dDI_12 : decode prog_21_method_1_code 12 = .ok (.putfield 10, 3) := by decide +kernel
theorem dDI_15 : decode prog_21_method_1_code 15 = .ok (.aload_n 0, 1) := by decide +kernel
theorem dDI_16 : decode prog_21_method_1_code 16 = .ok (.aload_n 1, 1) := by decide +kernel
theorem dDI_17 : decode prog_21_method_1_code 17 = .ok (.putfield 16, 3) := by decide +kernel
theorem dDI_20 : decode prog_21_method_1_code 20 = .ok (.aload_n 0, 1) := by decide +kernel
theorem dDI_21 : decode prog_21_method_1_code 21 = .ok (.aload_n 2, 1) := by decide +kernel
theorem dDI_22 : decode prog_21_method_1_code 22 = .ok (.putfield 20, 3) := by decide +kernel
theorem dDI_25 : decode prog_21_method_1_code 25 = .ok (.return_, 1) := by decide +kernel
theorem pn_com_example_sunder_sunder_query_Formulas_Decision : plainName "com/example/sunder/sunder/query/Formulas$Decision" = true := by first | (simp [plainName, overriddenIn]; done) | decide +kernel
theorem ef_rmDI (m : MethodId) (a : Addr) : entryFrame m #[(.ref a), .null, .null] 3 = mkF m 0 #[.val (.ref a), .val .null, .val .null] [] := by first | exact own_entry rfl | (simp [entryFrame, mkF, argsToLocals, Value.category]; done) | rfl
set_option maxRecDepth 65536 in
set_option maxHeartbeats 40000000 in
theorem rmDI (l : Launch) (Z : State) (a0 : Array Value) (hw : ∀ d ∈ tables_1, d.before a0 Z = true) (a : Addr) (h0 : Heap) (n0 : Nat) (Z0 : n0 ≤ h0.size) (E_a : Exa Z h0 a "com/example/sunder/sunder/query/Formulas$Decision") (ha : n0 ≤ a) (F_decided : Fld Z h0 a "com/example/sunder/sunder/query/Formulas$Decision" "decided" "Ljava/util/Map;" .null) (F_valuation : Fld Z h0 a "com/example/sunder/sunder/query/Formulas$Decision" "valuation" "Lcom/example/sunder/sunder/query/Formulas$Valuation;" .null) (F_conditions : Fld Z h0 a "com/example/sunder/sunder/query/Formulas$Decision" "conditions" "Ljava/util/List;" .null) :
    Pays l (⟨"com/example/sunder/sunder/query/Formulas$Decision", "<init>", "(Lcom/example/sunder/sunder/query/Formulas$Valuation;Ljava/util/List;)V"⟩ : MethodName) prog_21_method_1_code 3 none ({ frames := 3, cells := 1, slots := 8, locals := 38 } : Room) Z #[(.ref a), .null, .null] h0 (fun v h L => v = none ∧ Fr n0 L ∧ Keep h0 h [a] ∧ Exa Z h a "com/example/sunder/sunder/query/Formulas$Decision") := by
  refine Pays.of (plainFor_of_name pn_com_example_sunder_sunder_query_Formulas_Decision) ?_
  intro pP eE sS m below methM cC T hx hby hml hret hlk hZ hown hnm eT X
  replace hown : sS.vm.findClass "com/example/sunder/sunder/query/Formulas$Decision" = some m.cls := hown
  have N0 := Fr.nil n0
  have K0 := Keep.refl h0 [a]
  refine Go.cast (ef_rmDI m a) ?_
  refine Go.st (S' := T.setTop (mkF m 1 #[.val (.ref a), .val .null, .val .null] [(.ref a)])) (fun t kt => XS.aloadN X.here hx rfl (hb hby dDI_0) rfl rfl kt) ?_
  obtain ⟨T1, X1, e1, st1⟩ := initO X hx hZ hown (hw _ (List.mem_of_getElem? (i := 74) rfl)) (hw _ (List.mem_of_getElem? (i := 30) rfl)) (hw _ (List.mem_of_getElem? (i := 31) rfl)) eT (g := (mkF m 1 #[.val (.ref a), .val .null, .val .null] [(.ref a)])) rfl (by rw [hml]; rfl) rfl (hb hby dDI_1) (by decide) (W := 0) (by show 2 * 0 + _ ≤ _; exact Nat.le_of_eq rfl) (by decide)
  refine Go.st (S' := T1.setTop (mkF m 4 #[.val (.ref a), .val .null, .val .null] [])) (fun t kt => st1 t kt) ?_
  refine Go.st (S' := T1.setTop (mkF m 5 #[.val (.ref a), .val .null, .val .null] [(.ref a)])) (fun t kt => XS.aloadN X1.here hx rfl (hb hby dDI_4) rfl rfl kt) ?_
  obtain ⟨T2, h2, X2, e2, E2, A2, D2, -, st2⟩ := newO X1 hx hZ hown (hw _ (List.mem_of_getElem? (i := 75) rfl)) (hw _ (List.mem_of_getElem? (i := 33) rfl)) (hw _ (List.mem_of_getElem? (i := 34) rfl)) e1 (g := (mkF m 5 #[.val (.ref a), .val .null, .val .null] [(.ref a)])) rfl (hb hby dDI_5) (by decide) (by decide)
  obtain ⟨a2, g2⟩ : ∃ z, z = h0.size := ⟨_, rfl⟩
  rw [← g2] at A2 D2 st2
  have Z2 : n0 ≤ h2.size := Nat.le_trans Z0 E2.1
  have F2_loadFactor : Fld Z h2 a2 "java/util/HashMap" "loadFactor" "F" (.float (0 : UInt32)) := D2 (Or.inr (hw _ (List.mem_of_getElem? (i := 47) rfl))) (ty := .float) (by decide)
  have K2 := Keep.ext K0 E2
  have sz_a2 : h0.size ≤ a2 := Nat.le_trans K0.1 (Nat.le_of_eq g2.symm)
  refine Go.st (S' := T2.setTop (mkF m 8 #[.val (.ref a), .val .null, .val .null] [(.ref a2), (.ref a)])) (fun t kt => st2 t kt) ?_
  refine Go.st (S' := T2.setTop (mkF m 9 #[.val (.ref a), .val .null, .val .null] [(.ref a2), (.ref a2), (.ref a)])) (fun t kt => XS.dup X2.here hx rfl (hb hby dDI_8) rfl rfl kt) ?_
  refine Go.init X2 hx hZ rfl hown (hw _ (List.mem_of_getElem? (i := 76) rfl)) (hw _ (List.mem_of_getElem? (i := 36) rfl)) (hw _ (List.mem_of_getElem? (i := 37) rfl)) (hw _ (List.mem_of_getElem? (i := 34) rfl)) (by decide) (b := a2) (argsL := []) (rest := [(.ref a2), (.ref a)]) (rmHM l Z a0 hw a2 h2 n0 Z2 A2 (Nat.le_trans Z0 (Nat.le_of_eq g2.symm)) F2_loadFactor) e2 rfl (by rw [hml]; rfl) pd___V rfl (hb hby dDI_9) 2 (Nat.le_refl _) (by decide) (by decide) (by decide) (by decide) ?_
  intro v3 T3 L3 X3 hQ3
  have f4 := (E_a.ext E2)
  obtain ⟨hv3, N3', K3', f3_0⟩ := hQ3
  subst hv3
  have N3 := Fr.app N0 N3'
  have Z3 : n0 ≤ T3.heap.size := Nat.le_trans Z2 K3'.1
  have eh3 : T3.heap = T3.heap := rfl
  have K3 := Keep.trans K2 K3' (allS (Or.inr sz_a2) all0)
  show Go pP eE below _ (T3.setTop (mkF m 12 #[.val (.ref a), .val .null, .val .null] [(.ref a2), (.ref a)]))
  have f5 := ((F_decided.ext E2).keep K3' (ninS (Nat.ne_of_lt (by rw [g2]; exact E_a.lt)) nin0))
  have f6 := (f4.keep K3')
  obtain ⟨T7, h7, X7, e7, W7, st7⟩ := putF X3 hx hZ hown (host := "") (Or.inl (hw _ (List.mem_of_getElem? (i := 77) rfl))) Via.refl eh3 f5 f6 (Or.inr ⟨(hw _ (List.mem_of_getElem? (i := 78) rfl)), rfl, hnm⟩) (hw _ (List.mem_of_getElem? (i := 69) rfl)) (ty := (.object "java/util/Map")) (by decide) rfl rfl (g := (mkF m 12 #[.val (.ref a), .val .null, .val .null] [(.ref a2), (.ref a)])) rfl rfl (hb hby dDI_12)
  have F7 := Fld.same W7 f5
  have N7 := Fr.snoc X7 N3 ha
  have Z7 : n0 ≤ h7.size := by rw [Wr.size W7]; exact Z3
  have K7 := Keep.wr K3 W7 (Or.inl (List.mem_of_getElem? (i := 0) rfl))
  refine Go.st (S' := T7.setTop (mkF m 15 #[.val (.ref a), .val .null, .val .null] [])) (fun t kt => st7 t kt) ?_
  refine Go.st (S' := T7.setTop (mkF m 16 #[.val (.ref a), .val .null, .val .null] [(.ref a)])) (fun t kt => XS.aloadN X7.here hx rfl (hb hby dDI_15) rfl rfl kt) ?_
  refine Go.st (S' := T7.setTop (mkF m 17 #[.val (.ref a), .val .null, .val .null] [.null, (.ref a)])) (fun t kt => XS.aloadN X7.here hx rfl (hb hby dDI_16) rfl rfl kt) ?_
  have f8 := (Fld.other W7 ((F_valuation.ext E2).keep K3' (ninS (Nat.ne_of_lt (by rw [g2]; exact E_a.lt)) nin0)) (Or.inr (slot_ne (Or.inr (hw _ (List.mem_of_getElem? (i := 80) rfl))) (Or.inr (hw _ (List.mem_of_getElem? (i := 78) rfl))) (by decide) (t := (.object "com/example/sunder/sunder/query/Formulas$Valuation")) (t' := (.object "java/util/Map")) (by decide) (by decide))))
  have f9 := (Exa.wr W7 f6)
  obtain ⟨T10, h10, X10, e10, W10, st10⟩ := putF X7 hx hZ hown (host := "") (Or.inl (hw _ (List.mem_of_getElem? (i := 79) rfl))) Via.refl e7 f8 f9 (Or.inr ⟨(hw _ (List.mem_of_getElem? (i := 80) rfl)), rfl, hnm⟩) (hw _ (List.mem_of_getElem? (i := 69) rfl)) (ty := (.object "com/example/sunder/sunder/query/Formulas$Valuation")) (by decide) rfl rfl (g := (mkF m 17 #[.val (.ref a), .val .null, .val .null] [.null, (.ref a)])) rfl rfl (hb hby dDI_17)
  have F10 := Fld.same W10 f8
  have N10 := Fr.snoc X10 N7 ha
  have Z10 : n0 ≤ h10.size := by rw [Wr.size W10]; exact Z7
  have K10 := Keep.wr K7 W10 (Or.inl (List.mem_of_getElem? (i := 0) rfl))
  refine Go.st (S' := T10.setTop (mkF m 20 #[.val (.ref a), .val .null, .val .null] [])) (fun t kt => st10 t kt) ?_
  refine Go.st (S' := T10.setTop (mkF m 21 #[.val (.ref a), .val .null, .val .null] [(.ref a)])) (fun t kt => XS.aloadN X10.here hx rfl (hb hby dDI_20) rfl rfl kt) ?_
  refine Go.st (S' := T10.setTop (mkF m 22 #[.val (.ref a), .val .null, .val .null] [.null, (.ref a)])) (fun t kt => XS.aloadN X10.here hx rfl (hb hby dDI_21) rfl rfl kt) ?_
  have f11 := (Fld.other W10 (Fld.other W7 ((F_conditions.ext E2).keep K3' (ninS (Nat.ne_of_lt (by rw [g2]; exact E_a.lt)) nin0)) (Or.inr (slot_ne (Or.inr (hw _ (List.mem_of_getElem? (i := 82) rfl))) (Or.inr (hw _ (List.mem_of_getElem? (i := 78) rfl))) (by decide) (t := (.object "java/util/List")) (t' := (.object "java/util/Map")) (by decide) (by decide)))) (Or.inr (slot_ne (Or.inr (hw _ (List.mem_of_getElem? (i := 82) rfl))) (Or.inr (hw _ (List.mem_of_getElem? (i := 80) rfl))) (by decide) (t := (.object "java/util/List")) (t' := (.object "com/example/sunder/sunder/query/Formulas$Valuation")) (by decide) (by decide))))
  have f12 := (Exa.wr W10 f9)
  obtain ⟨T13, h13, X13, e13, W13, st13⟩ := putF X10 hx hZ hown (host := "") (Or.inl (hw _ (List.mem_of_getElem? (i := 81) rfl))) Via.refl e10 f11 f12 (Or.inr ⟨(hw _ (List.mem_of_getElem? (i := 82) rfl)), rfl, hnm⟩) (hw _ (List.mem_of_getElem? (i := 69) rfl)) (ty := (.object "java/util/List")) (by decide) rfl rfl (g := (mkF m 22 #[.val (.ref a), .val .null, .val .null] [.null, (.ref a)])) rfl rfl (hb hby dDI_22)
  have F13 := Fld.same W13 f11
  have N13 := Fr.snoc X13 N10 ha
  have Z13 : n0 ≤ h13.size := by rw [Wr.size W13]; exact Z10
  have K13 := Keep.wr K10 W13 (Or.inl (List.mem_of_getElem? (i := 0) rfl))
  refine Go.st (S' := T13.setTop (mkF m 25 #[.val (.ref a), .val .null, .val .null] [])) (fun t kt => st13 t kt) ?_
  have f14 := (Exa.wr W13 f12)
  exact ret_v X13 hx hlk hret (hb hby dDI_25) (by decide) (by decide) (by rw [e13]; exact ⟨rfl, N13, K13, f14⟩)
theorem dOR_0 : decode jdk_37_method_2_code 0 = .ok (.aload_n 0, 1) := by decide +kernel
theorem dOR_1 : decode jdk_37_method_2_code 1 = .ok (.getfield 7, 3) := by decide +kernel
theorem dOR_4 : decode jdk_37_method_2_code 4 = .ok (.ireturn, 1) := by decide +kernel
theorem pn_java_lang_Enum : plainName "java/lang/Enum" = true := by first | (simp [plainName, overriddenIn]; done) | decide +kernel
theorem ef_rmOR (m : MethodId) (a : Addr) : entryFrame m #[(.ref a)] 1 = mkF m 0 #[.val (.ref a)] [] := by first | exact own_entry rfl | (simp [entryFrame, mkF, argsToLocals, Value.category]; done) | rfl
set_option maxRecDepth 65536 in
set_option maxHeartbeats 40000000 in
theorem rmOR (l : Launch) (Z : State) (a0 : Array Value) (hw : ∀ d ∈ tables_1, d.before a0 Z = true) (a : Addr) (u : Int32) (h0 : Heap) (n0 : Nat) (Z0 : n0 ≤ h0.size) (F : Fld Z h0 a "java/lang/Enum" "ordinal" "I" (.int u)) :
    Pays l (⟨"java/lang/Enum", "ordinal", "()I"⟩ : MethodName) jdk_37_method_2_code 1 (some .int) ({ frames := 0, cells := 0, slots := 0, locals := 0 } : Room) Z #[(.ref a)] h0 (fun v h L => v = some (.int u) ∧ Fr n0 L ∧ h = h0) := by
  refine Pays.of (plainFor_of_name pn_java_lang_Enum) ?_
  intro pP eE sS m below methM cC T hx hby hml hret hlk hZ hown hnm eT X
  replace hown : sS.vm.findClass "java/lang/Enum" = some m.cls := hown
  have N0 := Fr.nil n0
  refine Go.cast (ef_rmOR m a) ?_
  refine Go.st (S' := T.setTop (mkF m 1 #[.val (.ref a)] [(.ref a)])) (fun t kt => XS.aloadN X.here hx rfl (hb hby dOR_0) rfl rfl kt) ?_
  obtain ⟨T1, X1, e1, st1⟩ := getF X hx hZ hown (host := "") (Or.inl (hw _ (List.mem_of_getElem? (i := 66) rfl))) Via.refl eT F (g := (mkF m 1 #[.val (.ref a)] [(.ref a)])) rfl rfl (hb hby dOR_1)
  refine Go.st (S' := T1.setTop (mkF m 4 #[.val (.ref a)] [(.int u)])) (fun t kt => st1 t kt) ?_
  exact ret_i X1 hx hlk hret (hb hby dOR_4) (by decide) (by decide) (⟨rfl, N0, e1⟩)
theorem dNT_0 : decode prog_19_method_5_code 0 = .ok (.getstatic 42, 3) := by decide +kernel
theorem dNT_3 : decode prog_19_method_5_code 3 = .ok (.aload_n 1, 1) := by decide +kernel
theorem dNT_4 : decode prog_19_method_5_code 4 = .ok (.getfield 48, 3) := by decide +kernel
theorem dNT_7 : decode prog_19_method_5_code 7 = .ok (.invokevirtual 53, 3) := by decide +kernel
theorem dNT_10 : decode prog_19_method_5_code 10 = .ok (.iaload, 1) := by decide +kernel
theorem dNT_11 : decode prog_19_method_5_code 11 = .ok (.tableswitch 38 1 3 #[25, 29, 33], 25) := by decide +kernel
theorem dNT_36 : decode prog_19_method_5_code 36 = .ok (.getstatic 20, 3) := by decide +kernel
theorem dNT_39 : decode prog_19_method_5_code 39 = .ok (.areturn, 1) := by decide +kernel
theorem pd___I : parseMethodDescriptor "()I" = some ⟨[], some .int⟩ := by decide +kernel
theorem ef_rmNT (m : MethodId) (a : Addr) (q : Addr) : entryFrame m #[(.ref a), (.ref q)] 2 = mkF m 0 #[.val (.ref a), .val (.ref q)] [] := by first | exact own_entry rfl | (simp [entryFrame, mkF, argsToLocals, Value.category]; done) | rfl
set_option maxRecDepth 65536 in
set_option maxHeartbeats 40000000 in
theorem rmNT (l : Launch) (Z : State) (a0 : Array Value) (hw : ∀ d ∈ tables_1, d.before a0 Z = true) (a q fT fF kT sw : Addr) (kS : ClassId) (h0 : Heap) (n0 : Nat) (Z0 : n0 ≤ h0.size) (S_t : Sta Z h0 "com/example/sunder/sunder/query/Formulas" "TRUE" "Lcom/example/sunder/sunder/query/Formula;" (.ref fT)) (S_f : Sta Z h0 "com/example/sunder/sunder/query/Formulas" "FALSE" "Lcom/example/sunder/sunder/query/Formula;" (.ref fF)) (S_sw : Sta Z h0 "com/example/sunder/sunder/query/Formulas$1" "$SwitchMap$com$example$sunder$sunder$query$Formula$Kind" "[I" (.ref sw)) (V_sw : Arv Z h0 sw kS .int (7 : Int32) [(.int (1 : Int32)), (.int (2 : Int32)), (.int (4 : Int32)), (.int (3 : Int32)), (.int (6 : Int32)), (.int (7 : Int32)), (.int (5 : Int32))] (.int (0 : Int32))) (F_k : Fld Z h0 q "com/example/sunder/sunder/query/Formula" "kind" "Lcom/example/sunder/sunder/query/Formula$Kind;" (.ref kT)) (E_k : Exa Z h0 kT "com/example/sunder/sunder/query/Formula$Kind") (F_o : Fld Z h0 kT "java/lang/Enum" "ordinal" "I" (.int (0 : Int32))) :
    Pays l (⟨"com/example/sunder/sunder/query/Formulas", "not", "(Lcom/example/sunder/sunder/query/Formula;)Lcom/example/sunder/sunder/query/Formula;"⟩ : MethodName) prog_19_method_5_code 2 (some (.object "com/example/sunder/sunder/query/Formula")) ({ frames := 1, cells := 0, slots := 0, locals := 13 } : Room) Z #[(.ref a), (.ref q)] h0 (fun v h L => v = some (.ref fF) ∧ Fr n0 L ∧ h = h0) := by
  refine Pays.of (plainFor_of_name pn_com_example_sunder_sunder_query_Formulas) ?_
  intro pP eE sS m below methM cC T hx hby hml hret hlk hZ hown hnm eT X
  replace hown : sS.vm.findClass "com/example/sunder/sunder/query/Formulas" = some m.cls := hown
  have N0 := Fr.nil n0
  refine Go.cast (ef_rmNT m a q) ?_
  obtain ⟨T1, X1, e1, st1⟩ := getS X hx hZ (host := "") hown (hw _ (List.mem_of_getElem? (i := 55) rfl)) Via.refl eT S_sw (g := (mkF m 0 #[.val (.ref a), .val (.ref q)] [])) rfl (hb hby dNT_0)
  refine Go.st (S' := T1.setTop (mkF m 3 #[.val (.ref a), .val (.ref q)] [(.ref sw)])) (fun t kt => st1 t kt) ?_
  refine Go.st (S' := T1.setTop (mkF m 4 #[.val (.ref a), .val (.ref q)] [(.ref q), (.ref sw)])) (fun t kt => XS.aloadN X1.here hx rfl (hb hby dNT_3) rfl rfl kt) ?_
  obtain ⟨T2, X2, e2, st2⟩ := getF X1 hx hZ hown (host := "") (Or.inl (hw _ (List.mem_of_getElem? (i := 58) rfl))) Via.refl e1 F_k (g := (mkF m 4 #[.val (.ref a), .val (.ref q)] [(.ref q), (.ref sw)])) rfl rfl (hb hby dNT_4)
  refine Go.st (S' := T2.setTop (mkF m 7 #[.val (.ref a), .val (.ref q)] [(.ref kT), (.ref sw)])) (fun t kt => st2 t kt) ?_
  refine Go.up X2 hx hZ hown (hw _ (List.mem_of_getElem? (i := 59) rfl)) (hw _ (List.mem_of_getElem? (i := 60) rfl)) (hw _ (List.mem_of_getElem? (i := 61) rfl)) (hw _ (List.mem_of_getElem? (i := 63) rfl)) (hw _ (List.mem_of_getElem? (i := 62) rfl)) (hw _ (List.mem_of_getElem? (i := 65) rfl)) (hw _ (List.mem_of_getElem? (i := 64) rfl)) (by decide) (b := kT) (argsL := []) (rest := [(.ref sw)]) (rmOR l Z a0 hw kT (0 : Int32) h0 n0 Z0 F_o) e2 E_k rfl (by rw [hml]; rfl) pd___I rfl (hb hby dNT_7) 1 (Nat.le_refl _) (by decide) (by decide) (by decide) (by decide) ?_
  intro v3 T3 L3 X3 hQ3
  obtain ⟨hv3, N3', e3⟩ := hQ3
  subst hv3
  have N3 := Fr.app N0 N3'
  show Go pP eE below _ (T3.setTop (mkF m 10 #[.val (.ref a), .val (.ref q)] [(.int (0 : Int32)), (.ref sw)]))
  obtain ⟨cl4, Ar4, q4, S4, M4, H4, G4⟩ := id V_sw
  refine Go.st (S' := T3.setTop (mkF m 11 #[.val (.ref a), .val (.ref q)] [(.int (1 : Int32))])) (fun t kt => X3.iaload hx (j := (0 : Int32)) (v := (.int (1 : Int32))) (by rw [e3]; exact Ar4.1) (State.isArrayOf_alike hZ.alike Ar4.2.1) Ar4.2.2 (inb_of S4 ⟨by decide, by decide⟩) (Has.at H4 (inb_of S4 ⟨by decide, by decide⟩) rfl) (g := (mkF m 10 #[.val (.ref a), .val (.ref q)] [(.int (0 : Int32)), (.ref sw)])) rfl rfl (hb hby dNT_10) t kt) ?_
  refine Go.st (S' := T3.setTop (mkF m 36 #[.val (.ref a), .val (.ref q)] [])) (fun t kt => XS.tswIn X3.here hx rfl (pc0 := 11) (pc' := 36) rfl (hb hby dNT_11) rfl (by decide) rfl (by decide) (by decide) kt) ?_
  obtain ⟨T5, X5, e5, st5⟩ := getS X3 hx hZ (host := "") hown (hw _ (List.mem_of_getElem? (i := 4) rfl)) Via.refl e3 S_f (g := (mkF m 36 #[.val (.ref a), .val (.ref q)] [])) rfl (hb hby dNT_36)
  refine Go.st (S' := T5.setTop (mkF m 39 #[.val (.ref a), .val (.ref q)] [(.ref fF)])) (fun t kt => st5 t kt) ?_
  exact ret_a X5 hx hlk hret rfl rfl (hb hby dNT_39) (by decide) (by decide) (⟨rfl, N3, e5⟩)
theorem dNF_0 : decode prog_19_method_5_code 0 = .ok (.getstatic 42, 3) := by decide +kernel
theorem dNF_3 : decode prog_19_method_5_code 3 = .ok (.aload_n 1, 1) := by decide +kernel
theorem dNF_4 : decode prog_19_method_5_code 4 = .ok (.getfield 48, 3) := by decide +kernel
theorem dNF_7 : decode prog_19_method_5_code 7 = .ok (.invokevirtual 53, 3) := by decide +kernel
theorem dNF_10 : decode prog_19_method_5_code 10 = .ok (.iaload, 1) := by decide +kernel
theorem dNF_11 : decode prog_19_method_5_code 11 = .ok (.tableswitch 38 1 3 #[25, 29, 33], 25) := by decide +kernel
theorem dNF_40 : decode prog_19_method_5_code 40 = .ok (.getstatic 16, 3) := by decide +kernel
theorem dNF_43 : decode prog_19_method_5_code 43 = .ok (.areturn, 1) := by decide +kernel
theorem ef_rmNF (m : MethodId) (a : Addr) (q : Addr) : entryFrame m #[(.ref a), (.ref q)] 2 = mkF m 0 #[.val (.ref a), .val (.ref q)] [] := by first | exact own_entry rfl | (simp [entryFrame, mkF, argsToLocals, Value.category]; done) | rfl
set_option maxRecDepth 65536 in
set_option maxHeartbeats 40000000 in
theorem rmNF (l : Launch) (Z : State) (a0 : Array Value) (hw : ∀ d ∈ tables_1, d.before a0 Z = true) (a q fT fF kF sw : Addr) (kS : ClassId) (h0 : Heap) (n0 : Nat) (Z0 : n0 ≤ h0.size) (S_t : Sta Z h0 "com/example/sunder/sunder/query/Formulas" "TRUE" "Lcom/example/sunder/sunder/query/Formula;" (.ref fT)) (S_f : Sta Z h0 "com/example/sunder/sunder/query/Formulas" "FALSE" "Lcom/example/sunder/sunder/query/Formula;" (.ref fF)) (S_sw : Sta Z h0 "com/example/sunder/sunder/query/Formulas$1" "$SwitchMap$com$example$sunder$sunder$query$Formula$Kind" "[I" (.ref sw)) (V_sw : Arv Z h0 sw kS .int (7 : Int32) [(.int (1 : Int32)), (.int (2 : Int32)), (.int (4 : Int32)), (.int (3 : Int32)), (.int (6 : Int32)), (.int (7 : Int32)), (.int (5 : Int32))] (.int (0 : Int32))) (F_k : Fld Z h0 q "com/example/sunder/sunder/query/Formula" "kind" "Lcom/example/sunder/sunder/query/Formula$Kind;" (.ref kF)) (E_k : Exa Z h0 kF "com/example/sunder/sunder/query/Formula$Kind") (F_o : Fld Z h0 kF "java/lang/Enum" "ordinal" "I" (.int (1 : Int32))) :
    Pays l (⟨"com/example/sunder/sunder/query/Formulas", "not", "(Lcom/example/sunder/sunder/query/Formula;)Lcom/example/sunder/sunder/query/Formula;"⟩ : MethodName) prog_19_method_5_code 2 (some (.object "com/example/sunder/sunder/query/Formula")) ({ frames := 1, cells := 0, slots := 0, locals := 13 } : Room) Z #[(.ref a), (.ref q)] h0 (fun v h L => v = some (.ref fT) ∧ Fr n0 L ∧ h = h0) := by
  refine Pays.of (plainFor_of_name pn_com_example_sunder_sunder_query_Formulas) ?_
  intro pP eE sS m below methM cC T hx hby hml hret hlk hZ hown hnm eT X
  replace hown : sS.vm.findClass "com/example/sunder/sunder/query/Formulas" = some m.cls := hown
  have N0 := Fr.nil n0
  refine Go.cast (ef_rmNF m a q) ?_
  obtain ⟨T1, X1, e1, st1⟩ := getS X hx hZ (host := "") hown (hw _ (List.mem_of_getElem? (i := 55) rfl)) Via.refl eT S_sw (g := (mkF m 0 #[.val (.ref a), .val (.ref q)] [])) rfl (hb hby dNF_0)
  refine Go.st (S' := T1.setTop (mkF m 3 #[.val (.ref a), .val (.ref q)] [(.ref sw)])) (fun t kt => st1 t kt) ?_
  refine Go.st (S' := T1.setTop (mkF m 4 #[.val (.ref a), .val (.ref q)] [(.ref q), (.ref sw)])) (fun t kt => XS.aloadN X1.here hx rfl (hb hby dNF_3) rfl rfl kt) ?_
  obtain ⟨T2, X2, e2, st2⟩ := getF X1 hx hZ hown (host := "") (Or.inl (hw _ (List.mem_of_getElem? (i := 58) rfl))) Via.refl e1 F_k (g := (mkF m 4 #[.val (.ref a), .val (.ref q)] [(.ref q), (.ref sw)])) rfl rfl (hb hby dNF_4)
  refine Go.st (S' := T2.setTop (mkF m 7 #[.val (.ref a), .val (.ref q)] [(.ref kF), (.ref sw)])) (fun t kt => st2 t kt) ?_
  refine Go.up X2 hx hZ hown (hw _ (List.mem_of_getElem? (i := 59) rfl)) (hw _ (List.mem_of_getElem? (i := 60) rfl)) (hw _ (List.mem_of_getElem? (i := 61) rfl)) (hw _ (List.mem_of_getElem? (i := 63) rfl)) (hw _ (List.mem_of_getElem? (i := 62) rfl)) (hw _ (List.mem_of_getElem? (i := 65) rfl)) (hw _ (List.mem_of_getElem? (i := 64) rfl)) (by decide) (b := kF) (argsL := []) (rest := [(.ref sw)]) (rmOR l Z a0 hw kF (1 : Int32) h0 n0 Z0 F_o) e2 E_k rfl (by rw [hml]; rfl) pd___I rfl (hb hby dNF_7) 1 (Nat.le_refl _) (by decide) (by decide) (by decide) (by decide) ?_
  intro v3 T3 L3 X3 hQ3
  obtain ⟨hv3, N3', e3⟩ := hQ3
  subst hv3
  have N3 := Fr.app N0 N3'
  show Go pP eE below _ (T3.setTop (mkF m 10 #[.val (.ref a), .val (.ref q)] [(.int (1 : Int32)), (.ref sw)]))
  obtain ⟨cl4, Ar4, q4, S4, M4, H4, G4⟩ := id V_sw
  refine Go.st (S' := T3.setTop (mkF m 11 #[.val (.ref a), .val (.ref q)] [(.int (2 : Int32))])) (fun t kt => X3.iaload hx (j := (1 : Int32)) (v := (.int (2 : Int32))) (by rw [e3]; exact Ar4.1) (State.isArrayOf_alike hZ.alike Ar4.2.1) Ar4.2.2 (inb_of S4 ⟨by decide, by decide⟩) (Has.at H4 (inb_of S4 ⟨by decide, by decide⟩) rfl) (g := (mkF m 10 #[.val (.ref a), .val (.ref q)] [(.int (1 : Int32)), (.ref sw)])) rfl rfl (hb hby dNF_10) t kt) ?_
  refine Go.st (S' := T3.setTop (mkF m 40 #[.val (.ref a), .val (.ref q)] [])) (fun t kt => XS.tswIn X3.here hx rfl (pc0 := 11) (pc' := 40) rfl (hb hby dNF_11) rfl (by decide) rfl (by decide) (by decide) kt) ?_
  obtain ⟨T5, X5, e5, st5⟩ := getS X3 hx hZ (host := "") hown (hw _ (List.mem_of_getElem? (i := 6) rfl)) Via.refl e3 S_t (g := (mkF m 40 #[.val (.ref a), .val (.ref q)] [])) rfl (hb hby dNF_40)
  refine Go.st (S' := T5.setTop (mkF m 43 #[.val (.ref a), .val (.ref q)] [(.ref fT)])) (fun t kt => st5 t kt) ?_
  exact ret_a X5 hx hlk hret rfl rfl (hb hby dNF_43) (by decide) (by decide) (⟨rfl, N3, e5⟩)
theorem dET_0 : decode prog_21_method_2_code 0 = .ok (.aload_n 1, 1) := by decide +kernel
theorem dET_1 : decode prog_21_method_2_code 1 = .ok (.invokevirtual 24, 3) := by decide +kernel
theorem dET_4 : decode prog_21_method_2_code 4 = .ok (.ifCond .eq 16, 3) := by decide +kernel
theorem dET_7 : decode prog_21_method_2_code 7 = .ok (.aload_n 1, 1) := by decide +kernel
theorem dET_8 : decode prog_21_method_2_code 8 = .ok (.getstatic 30, 3) := by decide +kernel
theorem dET_11 : decode prog_21_method_2_code 11 = .ok (.if_acmp .ne 7, 3) := by decide +kernel
theorem dET_14 : decode prog_21_method_2_code 14 = .ok (.iconst 1, 1) := by decide +kernel
theorem dET_15 : decode prog_21_method_2_code 15 = .ok (.goto 4, 3) := by decide +kernel
theorem dET_19 : decode prog_21_method_2_code 19 = .ok (.ireturn, 1) := by decide +kernel
theorem pd___Z : parseMethodDescriptor "()Z" = some ⟨[], some .boolean⟩ := by decide +kernel
theorem ef_rmET (m : MethodId) (a : Addr) (fT : Addr) : entryFrame m #[(.ref a), (.ref fT)] 5 = mkF m 0 #[.val (.ref a), .val (.ref fT), .unset, .unset, .unset] [] := by first | exact own_entry rfl | (simp [entryFrame, mkF, argsToLocals, Value.category]; done) | rfl
set_option maxRecDepth 65536 in
set_option maxHeartbeats 40000000 in
theorem rmET (l : Launch) (Z : State) (a0 : Array Value) (hw : ∀ d ∈ tables_1, d.before a0 Z = true) (a fT fF kT kF : Addr) (h0 : Heap) (n0 : Nat) (Z0 : n0 ≤ h0.size) (S_t : Sta Z h0 "com/example/sunder/sunder/query/Formulas" "TRUE" "Lcom/example/sunder/sunder/query/Formula;" (.ref fT)) (S_f : Sta Z h0 "com/example/sunder/sunder/query/Formulas" "FALSE" "Lcom/example/sunder/sunder/query/Formula;" (.ref fF)) (S_kt : Sta Z h0 "com/example/sunder/sunder/query/Formula$Kind" "TRUE" "Lcom/example/sunder/sunder/query/Formula$Kind;" (.ref kT)) (S_kf : Sta Z h0 "com/example/sunder/sunder/query/Formula$Kind" "FALSE" "Lcom/example/sunder/sunder/query/Formula$Kind;" (.ref kF)) (F_k : Fld Z h0 fT "com/example/sunder/sunder/query/Formula" "kind" "Lcom/example/sunder/sunder/query/Formula$Kind;" (.ref kT)) (E_q : Exa Z h0 fT "com/example/sunder/sunder/query/Formula") (hne : kT ≠ kF) (hnf : fT ≠ fF) :
    Pays l (⟨"com/example/sunder/sunder/query/Formulas$Decision", "decide", "(Lcom/example/sunder/sunder/query/Formula;)Z"⟩ : MethodName) prog_21_method_2_code 5 (some .boolean) ({ frames := 1, cells := 0, slots := 0, locals := 12 } : Room) Z #[(.ref a), (.ref fT)] h0 (fun v h L => v = some (.int 1) ∧ Fr n0 L ∧ h = h0) := by
  refine Pays.of (plainFor_of_name pn_com_example_sunder_sunder_query_Formulas_Decision) ?_
  intro pP eE sS m below methM cC T hx hby hml hret hlk hZ hown hnm eT X
  replace hown : sS.vm.findClass "com/example/sunder/sunder/query/Formulas$Decision" = some m.cls := hown
  have N0 := Fr.nil n0
  refine Go.cast (ef_rmET m a fT) ?_
  refine Go.st (S' := T.setTop (mkF m 1 #[.val (.ref a), .val (.ref fT), .unset, .unset, .unset] [(.ref fT)])) (fun t kt => XS.aloadN X.here hx rfl (hb hby dET_0) rfl rfl kt) ?_
  refine Go.virt X hx hZ hown (hw _ (List.mem_of_getElem? (i := 88) rfl)) (hw _ (List.mem_of_getElem? (i := 10) rfl)) (notFace_of_selects (mvT (args := #[]) hZ (hw _ (List.mem_of_getElem? (i := 12) rfl)))) (hw _ (List.mem_of_getElem? (i := 12) rfl)) (hw _ (List.mem_of_getElem? (i := 11) rfl)) (hw _ (List.mem_of_getElem? (i := 14) rfl)) (hw _ (List.mem_of_getElem? (i := 13) rfl)) (by decide) (b := fT) (argsL := []) (rest := []) (rmIT l Z a0 hw fT kT kF h0 n0 Z0 S_kt S_kf F_k hne) eT E_q rfl (by rw [hml]; rfl) pd___Z rfl (hb hby dET_1) 0 (Nat.le_refl _) (by decide) (by decide) (by decide) (by decide) ?_
  intro v1 T1 L1 X1 hQ1
  obtain ⟨hv1, N1', e1⟩ := hQ1
  subst hv1
  have N1 := Fr.app N0 N1'
  show Go pP eE below _ (T1.setTop (mkF m 4 #[.val (.ref a), .val (.ref fT), .unset, .unset, .unset] [(.int (1 : Int32))]))
  refine Go.st (S' := T1.setTop (mkF m 7 #[.val (.ref a), .val (.ref fT), .unset, .unset, .unset] [])) (fun t kt => XS.ifNo X1.here hx rfl (hb hby dET_4) rfl (XT.i0_eq_f (by decide)) kt) ?_
  refine Go.st (S' := T1.setTop (mkF m 8 #[.val (.ref a), .val (.ref fT), .unset, .unset, .unset] [(.ref fT)])) (fun t kt => XS.aloadN X1.here hx rfl (hb hby dET_7) rfl rfl kt) ?_
  obtain ⟨T2, X2, e2, st2⟩ := getS X1 hx hZ (host := "") hown (hw _ (List.mem_of_getElem? (i := 89) rfl)) Via.refl e1 S_t (g := (mkF m 8 #[.val (.ref a), .val (.ref fT), .unset, .unset, .unset] [(.ref fT)])) rfl (hb hby dET_8)
  refine Go.st (S' := T2.setTop (mkF m 11 #[.val (.ref a), .val (.ref fT), .unset, .unset, .unset] [(.ref fT), (.ref fT)])) (fun t kt => st2 t kt) ?_
  refine Go.st (S' := T2.setTop (mkF m 14 #[.val (.ref a), .val (.ref fT), .unset, .unset, .unset] [])) (fun t kt => XT.acmpNo X2.here hx rfl (hb hby dET_11) rfl rfl rfl (XT.aa_ne_f rfl) kt) ?_
  refine Go.st (S' := T2.setTop (mkF m 15 #[.val (.ref a), .val (.ref fT), .unset, .unset, .unset] [(.int (1 : Int32))])) (fun t kt => XS.iconst X2.here hx rfl (hb hby dET_14) kt) ?_
  refine Go.st (S' := T2.setTop (mkF m 19 #[.val (.ref a), .val (.ref fT), .unset, .unset, .unset] [(.int (1 : Int32))])) (fun t kt => XS.goto X2.here hx rfl (pc0 := 15) (pc' := 19) rfl (hb hby dET_15) (by decide) (by decide) kt) ?_
  exact ret_b X2 hx hlk hret (hb hby dET_19) (by decide) (by decide) (⟨rfl, N1, e2⟩)
theorem dEF_0 : decode prog_21_method_2_code 0 = .ok (.aload_n 1, 1) := by decide +kernel
theorem dEF_1 : decode prog_21_method_2_code 1 = .ok (.invokevirtual 24, 3) := by decide +kernel
theorem dEF_4 : decode prog_21_method_2_code 4 = .ok (.ifCond .eq 16, 3) := by decide +kernel
theorem dEF_7 : decode prog_21_method_2_code 7 = .ok (.aload_n 1, 1) := by decide +kernel
theorem dEF_8 : decode prog_21_method_2_code 8 = .ok (.getstatic 30, 3) := by decide +kernel
theorem dEF_11 : decode prog_21_method_2_code 11 = .ok (.if_acmp .ne 7, 3) := by decide +kernel
theorem dEF_18 : decode prog_21_method_2_code 18 = .ok (.iconst 0, 1) := by decide +kernel
theorem dEF_19 : decode prog_21_method_2_code 19 = .ok (.ireturn, 1) := by decide +kernel
theorem ef_rmEF (m : MethodId) (a : Addr) (fF : Addr) : entryFrame m #[(.ref a), (.ref fF)] 5 = mkF m 0 #[.val (.ref a), .val (.ref fF), .unset, .unset, .unset] [] := by first | exact own_entry rfl | (simp [entryFrame, mkF, argsToLocals, Value.category]; done) | rfl
set_option maxRecDepth 65536 in
set_option maxHeartbeats 40000000 in
theorem rmEF (l : Launch) (Z : State) (a0 : Array Value) (hw : ∀ d ∈ tables_1, d.before a0 Z = true) (a fT fF kT kF : Addr) (h0 : Heap) (n0 : Nat) (Z0 : n0 ≤ h0.size) (S_t : Sta Z h0 "com/example/sunder/sunder/query/Formulas" "TRUE" "Lcom/example/sunder/sunder/query/Formula;" (.ref fT)) (S_f : Sta Z h0 "com/example/sunder/sunder/query/Formulas" "FALSE" "Lcom/example/sunder/sunder/query/Formula;" (.ref fF)) (S_kt : Sta Z h0 "com/example/sunder/sunder/query/Formula$Kind" "TRUE" "Lcom/example/sunder/sunder/query/Formula$Kind;" (.ref kT)) (S_kf : Sta Z h0 "com/example/sunder/sunder/query/Formula$Kind" "FALSE" "Lcom/example/sunder/sunder/query/Formula$Kind;" (.ref kF)) (F_k : Fld Z h0 fF "com/example/sunder/sunder/query/Formula" "kind" "Lcom/example/sunder/sunder/query/Formula$Kind;" (.ref kF)) (E_q : Exa Z h0 fF "com/example/sunder/sunder/query/Formula") (hne : kT ≠ kF) (hnf : fT ≠ fF) :
    Pays l (⟨"com/example/sunder/sunder/query/Formulas$Decision", "decide", "(Lcom/example/sunder/sunder/query/Formula;)Z"⟩ : MethodName) prog_21_method_2_code 5 (some .boolean) ({ frames := 1, cells := 0, slots := 0, locals := 12 } : Room) Z #[(.ref a), (.ref fF)] h0 (fun v h L => v = some (.int 0) ∧ Fr n0 L ∧ h = h0) := by
  refine Pays.of (plainFor_of_name pn_com_example_sunder_sunder_query_Formulas_Decision) ?_
  intro pP eE sS m below methM cC T hx hby hml hret hlk hZ hown hnm eT X
  replace hown : sS.vm.findClass "com/example/sunder/sunder/query/Formulas$Decision" = some m.cls := hown
  have N0 := Fr.nil n0
  refine Go.cast (ef_rmEF m a fF) ?_
  refine Go.st (S' := T.setTop (mkF m 1 #[.val (.ref a), .val (.ref fF), .unset, .unset, .unset] [(.ref fF)])) (fun t kt => XS.aloadN X.here hx rfl (hb hby dEF_0) rfl rfl kt) ?_
  refine Go.virt X hx hZ hown (hw _ (List.mem_of_getElem? (i := 88) rfl)) (hw _ (List.mem_of_getElem? (i := 10) rfl)) (notFace_of_selects (mvT (args := #[]) hZ (hw _ (List.mem_of_getElem? (i := 12) rfl)))) (hw _ (List.mem_of_getElem? (i := 12) rfl)) (hw _ (List.mem_of_getElem? (i := 11) rfl)) (hw _ (List.mem_of_getElem? (i := 14) rfl)) (hw _ (List.mem_of_getElem? (i := 13) rfl)) (by decide) (b := fF) (argsL := []) (rest := []) (rmIF l Z a0 hw fF kT kF h0 n0 Z0 S_kt S_kf F_k hne) eT E_q rfl (by rw [hml]; rfl) pd___Z rfl (hb hby dEF_1) 0 (Nat.le_refl _) (by decide) (by decide) (by decide) (by decide) ?_
  intro v1 T1 L1 X1 hQ1
  obtain ⟨hv1, N1', e1⟩ := hQ1
  subst hv1
  have N1 := Fr.app N0 N1'
  show Go pP eE below _ (T1.setTop (mkF m 4 #[.val (.ref a), .val (.ref fF), .unset, .unset, .unset] [(.int (1 : Int32))]))
  refine Go.st (S' := T1.setTop (mkF m 7 #[.val (.ref a), .val (.ref fF), .unset, .unset, .unset] [])) (fun t kt => XS.ifNo X1.here hx rfl (hb hby dEF_4) rfl (XT.i0_eq_f (by decide)) kt) ?_
  refine Go.st (S' := T1.setTop (mkF m 8 #[.val (.ref a), .val (.ref fF), .unset, .unset, .unset] [(.ref fF)])) (fun t kt => XS.aloadN X1.here hx rfl (hb hby dEF_7) rfl rfl kt) ?_
  obtain ⟨T2, X2, e2, st2⟩ := getS X1 hx hZ (host := "") hown (hw _ (List.mem_of_getElem? (i := 89) rfl)) Via.refl e1 S_t (g := (mkF m 8 #[.val (.ref a), .val (.ref fF), .unset, .unset, .unset] [(.ref fF)])) rfl (hb hby dEF_8)
  refine Go.st (S' := T2.setTop (mkF m 11 #[.val (.ref a), .val (.ref fF), .unset, .unset, .unset] [(.ref fT), (.ref fF)])) (fun t kt => st2 t kt) ?_
  refine Go.st (S' := T2.setTop (mkF m 18 #[.val (.ref a), .val (.ref fF), .unset, .unset, .unset] [])) (fun t kt => XT.acmpYes X2.here hx rfl (pc0 := 11) (pc' := 18) rfl (hb hby dEF_11) rfl rfl rfl (XT.aa_ne_t (fun q => hnf (Value.ref.inj q).symm)) (by decide) (by decide) kt) ?_
  refine Go.st (S' := T2.setTop (mkF m 19 #[.val (.ref a), .val (.ref fF), .unset, .unset, .unset] [(.int (0 : Int32))])) (fun t kt => XS.iconst X2.here hx rfl (hb hby dEF_18) kt) ?_
  exact ret_b X2 hx hlk hret (hb hby dEF_19) (by decide) (by decide) (⟨rfl, N1, e2⟩)
theorem pd__Z_Lcom_example_sunder_sunder_query_Formula_ : parseMethodDescriptor "(Z)Lcom/example/sunder/sunder/query/Formula;" = some ⟨[.boolean], some (.object "com/example/sunder/sunder/query/Formula")⟩ := by decide +kernel
theorem pd__Lcom_example_sunder_sunder_query_Formula__Lcom_example_sunder_sunder_query_Formula_ : parseMethodDescriptor "(Lcom/example/sunder/sunder/query/Formula;)Lcom/example/sunder/sunder/query/Formula;" = some ⟨[(.object "com/example/sunder/sunder/query/Formula")], some (.object "com/example/sunder/sunder/query/Formula")⟩ := by decide +kernel
theorem pd__Lcom_example_sunder_sunder_query_Formulas_Valuation_Ljava_util_List__V : parseMethodDescriptor "(Lcom/example/sunder/sunder/query/Formulas$Valuation;Ljava/util/List;)V" = some ⟨[(.object "com/example/sunder/sunder/query/Formulas$Valuation"), (.object "java/util/List")], none⟩ := by decide +kernel
theorem pd__Lcom_example_sunder_sunder_query_Formula__Z : parseMethodDescriptor "(Lcom/example/sunder/sunder/query/Formula;)Z" = some ⟨[(.object "com/example/sunder/sunder/query/Formula")], some .boolean⟩ := by decide +kernel
theorem pn_com_example_sunder_sunder_query_FormulasConstantPinLaw : plainName "com/example/sunder/sunder/query/FormulasConstantPinLaw" = true := by first | (simp [plainName, overriddenIn]; done) | decide +kernel
theorem ef_rm0 (m : MethodId) (p0 : Int32) : entryFrame m #[(.int p0)] maxLocals = mkF m 0 #[.val (.int p0), .unset, .unset, .unset, .unset, .unset, .unset] [] := by first | exact own_entry rfl | (simp [entryFrame, mkF, argsToLocals, Value.category, maxLocals]; done) | rfl
set_option maxRecDepth 65536 in
set_option maxHeartbeats 40000000 in
theorem rm0 (l : Launch) (Z : State) (a0 : Array Value) (hw : ∀ d ∈ tables_1, d.before a0 Z = true) (p0 : Int32) (h0 : Heap) (n0 : Nat) (Z0 : n0 ≤ h0.size) (fT fF kT kF sw : Addr) (kS : ClassId) (S_t : Sta Z h0 "com/example/sunder/sunder/query/Formulas" "TRUE" "Lcom/example/sunder/sunder/query/Formula;" (.ref fT)) (S_f : Sta Z h0 "com/example/sunder/sunder/query/Formulas" "FALSE" "Lcom/example/sunder/sunder/query/Formula;" (.ref fF)) (S_kt : Sta Z h0 "com/example/sunder/sunder/query/Formula$Kind" "TRUE" "Lcom/example/sunder/sunder/query/Formula$Kind;" (.ref kT)) (S_kf : Sta Z h0 "com/example/sunder/sunder/query/Formula$Kind" "FALSE" "Lcom/example/sunder/sunder/query/Formula$Kind;" (.ref kF)) (S_sw : Sta Z h0 "com/example/sunder/sunder/query/Formulas$1" "$SwitchMap$com$example$sunder$sunder$query$Formula$Kind" "[I" (.ref sw)) (V_sw : Arv Z h0 sw kS .int (7 : Int32) [(.int (1 : Int32)), (.int (2 : Int32)), (.int (4 : Int32)), (.int (3 : Int32)), (.int (6 : Int32)), (.int (7 : Int32)), (.int (5 : Int32))] (.int (0 : Int32))) (E_fT : Exa Z h0 fT "com/example/sunder/sunder/query/Formula") (K_fT : Fld Z h0 fT "com/example/sunder/sunder/query/Formula" "kind" "Lcom/example/sunder/sunder/query/Formula$Kind;" (.ref kT)) (I_fT : Fld Z h0 fT "com/example/sunder/sunder/query/Formula" "id" "I" (.int (-1 : Int32))) (E_fF : Exa Z h0 fF "com/example/sunder/sunder/query/Formula") (K_fF : Fld Z h0 fF "com/example/sunder/sunder/query/Formula" "kind" "Lcom/example/sunder/sunder/query/Formula$Kind;" (.ref kF)) (I_fF : Fld Z h0 fF "com/example/sunder/sunder/query/Formula" "id" "I" (.int (-1 : Int32))) (E_kT : Exa Z h0 kT "com/example/sunder/sunder/query/Formula$Kind") (O_kT : Fld Z h0 kT "java/lang/Enum" "ordinal" "I" (.int (0 : Int32))) (E_kF : Exa Z h0 kF "com/example/sunder/sunder/query/Formula$Kind") (O_kF : Fld Z h0 kF "java/lang/Enum" "ordinal" "I" (.int (1 : Int32))) (hne : kT ≠ kF) (hnf : fT ≠ fF) :
    Pays l x code maxLocals ret room_1 Z #[(.int p0)] h0 (fun v h L => v = some (.int 1) ∧ Fr n0 L) := by
  refine Pays.of (plainFor_of_name pn_com_example_sunder_sunder_query_FormulasConstantPinLaw) ?_
  intro pP eE sS m below methM cC T hx hby hml hret hlk hZ hown hnm eT X
  replace hown : sS.vm.findClass "com/example/sunder/sunder/query/FormulasConstantPinLaw" = some m.cls := hown
  have N0 := Fr.nil n0
  refine Go.cast (ef_rm0 m p0) ?_
  refine Go.st (S' := T.setTop (mkF m 1 #[.val (.int p0), .unset, .unset, .unset, .unset, .unset, .unset] [(.int p0)])) (fun t kt => XS.iloadN X.here hx rfl (hb hby at_0) rfl kt) ?_
  refine Go.st (S' := T.setTop (mkF m 2 #[.val (.int p0), .unset, .unset, .unset, .unset, .unset, .unset] [(.int (1 : Int32)), (.int p0)])) (fun t kt => XS.iconst X.here hx rfl (hb hby at_1) kt) ?_
  refine Go.st (S' := T.setTop (mkF m 3 #[.val (.int p0), .unset, .unset, .unset, .unset, .unset, .unset] [(.int (p0 &&& (1 : Int32)))])) (fun t kt => XS.iand X.here hx rfl (hb hby at_2) rfl kt) ?_
  by_cases hc3_1 : (p0 &&& (1 : Int32)) = 0
  · refine Go.st (S' := T.setTop (mkF m 10 #[.val (.int p0), .unset, .unset, .unset, .unset, .unset, .unset] [])) (fun t kt => XS.ifYes X.here hx rfl (pc0 := 3) (pc' := 10) rfl (hb hby at_3) rfl (XT.i0_eq_t hc3_1) (by decide) (by decide) kt) ?_
    refine Go.st (S' := T.setTop (mkF m 11 #[.val (.int p0), .unset, .unset, .unset, .unset, .unset, .unset] [(.int (0 : Int32))])) (fun t kt => XS.iconst X.here hx rfl (hb hby at_10) kt) ?_
    refine Go.st (S' := T.setTop (mkF m 12 #[.val (.int p0), .val (.int (0 : Int32)), .unset, .unset, .unset, .unset, .unset] [])) (fun t kt => XS.istoreN X.here hx rfl (hb hby at_11) rfl rfl kt) ?_
    refine Go.st (S' := T.setTop (mkF m 13 #[.val (.int p0), .val (.int (0 : Int32)), .unset, .unset, .unset, .unset, .unset] [(.int (0 : Int32))])) (fun t kt => XS.iloadN X.here hx rfl (hb hby at_12) rfl kt) ?_
    refine Go.stat X hx hZ hown (hw _ (List.mem_of_getElem? (i := 0) rfl)) (hw _ (List.mem_of_getElem? (i := 1) rfl)) (hw _ (List.mem_of_getElem? (i := 2) rfl)) (hw _ (List.mem_of_getElem? (i := 3) rfl)) (by decide) (argsL := [(.int (0 : Int32))]) (rest := []) (rmC0 l Z a0 hw fT fF h0 n0 Z0 S_t S_f) eT rfl (by rw [hml]; rfl) pd__Z_Lcom_example_sunder_sunder_query_Formula_ rfl (hb hby at_13) 0 (Nat.le_refl _) (by decide) (by decide) (by decide) (by decide) ?_
    intro v2 T2 L2 X2 hQ2
    obtain ⟨hv2, N2', e2⟩ := hQ2
    subst hv2
    have N2 := Fr.app N0 N2'
    show Go pP eE below _ (T2.setTop (mkF m 16 #[.val (.int p0), .val (.int (0 : Int32)), .unset, .unset, .unset, .unset, .unset] [(.ref fF)]))
    refine Go.st (S' := T2.setTop (mkF m 17 #[.val (.int p0), .val (.int (0 : Int32)), .val (.ref fF), .unset, .unset, .unset, .unset] [])) (fun t kt => XS.astoreN X2.here hx rfl (hb hby at_16) rfl rfl rfl kt) ?_
    refine Go.st (S' := T2.setTop (mkF m 18 #[.val (.int p0), .val (.int (0 : Int32)), .val (.ref fF), .unset, .unset, .unset, .unset] [(.int (0 : Int32))])) (fun t kt => XS.iloadN X2.here hx rfl (hb hby at_17) rfl kt) ?_
    refine Go.st (S' := T2.setTop (mkF m 21 #[.val (.int p0), .val (.int (0 : Int32)), .val (.ref fF), .unset, .unset, .unset, .unset] [])) (fun t kt => XS.ifNo X2.here hx rfl (hb hby at_18) rfl (XT.i0_ne_f (by decide)) kt) ?_
    refine Go.st (S' := T2.setTop (mkF m 22 #[.val (.int p0), .val (.int (0 : Int32)), .val (.ref fF), .unset, .unset, .unset, .unset] [(.int (1 : Int32))])) (fun t kt => XS.iconst X2.here hx rfl (hb hby at_21) kt) ?_
    refine Go.st (S' := T2.setTop (mkF m 26 #[.val (.int p0), .val (.int (0 : Int32)), .val (.ref fF), .unset, .unset, .unset, .unset] [(.int (1 : Int32))])) (fun t kt => XS.goto X2.here hx rfl (pc0 := 22) (pc' := 26) rfl (hb hby at_22) (by decide) (by decide) kt) ?_
    refine Go.stat X2 hx hZ hown (hw _ (List.mem_of_getElem? (i := 0) rfl)) (hw _ (List.mem_of_getElem? (i := 1) rfl)) (hw _ (List.mem_of_getElem? (i := 2) rfl)) (hw _ (List.mem_of_getElem? (i := 3) rfl)) (by decide) (argsL := [(.int (1 : Int32))]) (rest := []) (rmC1 l Z a0 hw fT fF h0 n0 Z0 S_t S_f) e2 rfl (by rw [hml]; rfl) pd__Z_Lcom_example_sunder_sunder_query_Formula_ rfl (hb hby at_26) 0 (Nat.le_refl _) (by decide) (by decide) (by decide) (by decide) ?_
    intro v3 T3 L3 X3 hQ3
    obtain ⟨hv3, N3', e3⟩ := hQ3
    subst hv3
    have N3 := Fr.app N2 N3'
    show Go pP eE below _ (T3.setTop (mkF m 29 #[.val (.int p0), .val (.int (0 : Int32)), .val (.ref fF), .unset, .unset, .unset, .unset] [(.ref fT)]))
    refine Go.st (S' := T3.setTop (mkF m 30 #[.val (.int p0), .val (.int (0 : Int32)), .val (.ref fF), .val (.ref fT), .unset, .unset, .unset] [])) (fun t kt => XS.astoreN X3.here hx rfl (hb hby at_29) rfl rfl rfl kt) ?_
    refine Go.st (S' := T3.setTop (mkF m 31 #[.val (.int p0), .val (.int (0 : Int32)), .val (.ref fF), .val (.ref fT), .unset, .unset, .unset] [(.int (0 : Int32))])) (fun t kt => XS.iloadN X3.here hx rfl (hb hby at_30) rfl kt) ?_
    refine Go.st (S' := T3.setTop (mkF m 40 #[.val (.int p0), .val (.int (0 : Int32)), .val (.ref fF), .val (.ref fT), .unset, .unset, .unset] [])) (fun t kt => XS.ifYes X3.here hx rfl (pc0 := 31) (pc' := 40) rfl (hb hby at_31) rfl (XT.i0_eq_t (by decide)) (by decide) (by decide) kt) ?_
    obtain ⟨T4, X4, e4, st4⟩ := getS X3 hx hZ (host := "") hown (hw _ (List.mem_of_getElem? (i := 8) rfl)) Via.refl e3 S_f (g := (mkF m 40 #[.val (.int p0), .val (.int (0 : Int32)), .val (.ref fF), .val (.ref fT), .unset, .unset, .unset] [])) rfl (hb hby at_40)
    refine Go.st (S' := T4.setTop (mkF m 43 #[.val (.int p0), .val (.int (0 : Int32)), .val (.ref fF), .val (.ref fT), .unset, .unset, .unset] [(.ref fF)])) (fun t kt => st4 t kt) ?_
    refine Go.st (S' := T4.setTop (mkF m 45 #[.val (.int p0), .val (.int (0 : Int32)), .val (.ref fF), .val (.ref fT), .val (.ref fF), .unset, .unset] [])) (fun t kt => XS.astore X4.here hx rfl (hb hby at_43) rfl rfl rfl kt) ?_
    refine Go.st (S' := T4.setTop (mkF m 46 #[.val (.int p0), .val (.int (0 : Int32)), .val (.ref fF), .val (.ref fT), .val (.ref fF), .unset, .unset] [(.ref fF)])) (fun t kt => XS.aloadN X4.here hx rfl (hb hby at_45) rfl rfl kt) ?_
    refine Go.st (S' := T4.setTop (mkF m 48 #[.val (.int p0), .val (.int (0 : Int32)), .val (.ref fF), .val (.ref fT), .val (.ref fF), .unset, .unset] [(.ref fF), (.ref fF)])) (fun t kt => XS.aload X4.here hx rfl (hb hby at_46) rfl rfl kt) ?_
    refine Go.st (S' := T4.setTop (mkF m 53 #[.val (.int p0), .val (.int (0 : Int32)), .val (.ref fF), .val (.ref fT), .val (.ref fF), .unset, .unset] [])) (fun t kt => XT.acmpYes X4.here hx rfl (pc0 := 48) (pc' := 53) rfl (hb hby at_48) rfl rfl rfl (XT.aa_eq_t rfl) (by decide) (by decide) kt) ?_
    refine Go.st (S' := T4.setTop (mkF m 54 #[.val (.int p0), .val (.int (0 : Int32)), .val (.ref fF), .val (.ref fT), .val (.ref fF), .unset, .unset] [(.ref fF)])) (fun t kt => XS.aloadN X4.here hx rfl (hb hby at_53) rfl rfl kt) ?_
    refine Go.st (S' := T4.setTop (mkF m 55 #[.val (.int p0), .val (.int (0 : Int32)), .val (.ref fF), .val (.ref fT), .val (.ref fF), .unset, .unset] [(.ref fT), (.ref fF)])) (fun t kt => XS.aloadN X4.here hx rfl (hb hby at_54) rfl rfl kt) ?_
    refine Go.st (S' := T4.setTop (mkF m 60 #[.val (.int p0), .val (.int (0 : Int32)), .val (.ref fF), .val (.ref fT), .val (.ref fF), .unset, .unset] [])) (fun t kt => XT.acmpYes X4.here hx rfl (pc0 := 55) (pc' := 60) rfl (hb hby at_55) rfl rfl rfl (XT.aa_ne_t (fun q => hnf (Value.ref.inj q).symm)) (by decide) (by decide) kt) ?_
    refine Go.st (S' := T4.setTop (mkF m 61 #[.val (.int p0), .val (.int (0 : Int32)), .val (.ref fF), .val (.ref fT), .val (.ref fF), .unset, .unset] [(.ref fF)])) (fun t kt => XS.aloadN X4.here hx rfl (hb hby at_60) rfl rfl kt) ?_
    refine Go.virt X4 hx hZ hown (hw _ (List.mem_of_getElem? (i := 9) rfl)) (hw _ (List.mem_of_getElem? (i := 10) rfl)) (notFace_of_selects (mvT (args := #[]) hZ (hw _ (List.mem_of_getElem? (i := 12) rfl)))) (hw _ (List.mem_of_getElem? (i := 12) rfl)) (hw _ (List.mem_of_getElem? (i := 11) rfl)) (hw _ (List.mem_of_getElem? (i := 14) rfl)) (hw _ (List.mem_of_getElem? (i := 13) rfl)) (by decide) (b := fF) (argsL := []) (rest := []) (rmIF l Z a0 hw fF kT kF h0 n0 Z0 S_kt S_kf K_fF hne) e4 E_fF rfl (by rw [hml]; rfl) pd___Z rfl (hb hby at_61) 0 (Nat.le_refl _) (by decide) (by decide) (by decide) (by decide) ?_
    intro v5 T5 L5 X5 hQ5
    obtain ⟨hv5, N5', e5⟩ := hQ5
    subst hv5
    have N5 := Fr.app N3 N5'
    show Go pP eE below _ (T5.setTop (mkF m 64 #[.val (.int p0), .val (.int (0 : Int32)), .val (.ref fF), .val (.ref fT), .val (.ref fF), .unset, .unset] [(.int (1 : Int32))]))
    refine Go.st (S' := T5.setTop (mkF m 67 #[.val (.int p0), .val (.int (0 : Int32)), .val (.ref fF), .val (.ref fT), .val (.ref fF), .unset, .unset] [])) (fun t kt => XS.ifNo X5.here hx rfl (hb hby at_64) rfl (XT.i0_eq_f (by decide)) kt) ?_
    refine Go.st (S' := T5.setTop (mkF m 68 #[.val (.int p0), .val (.int (0 : Int32)), .val (.ref fF), .val (.ref fT), .val (.ref fF), .unset, .unset] [(.ref fF)])) (fun t kt => XS.aloadN X5.here hx rfl (hb hby at_67) rfl rfl kt) ?_
    obtain ⟨T6, X6, e6, st6⟩ := getF X5 hx hZ hown (host := "") (Or.inl (hw _ (List.mem_of_getElem? (i := 22) rfl))) Via.refl e5 I_fF (g := (mkF m 68 #[.val (.int p0), .val (.int (0 : Int32)), .val (.ref fF), .val (.ref fT), .val (.ref fF), .unset, .unset] [(.ref fF)])) rfl rfl (hb hby at_68)
    refine Go.st (S' := T6.setTop (mkF m 71 #[.val (.int p0), .val (.int (0 : Int32)), .val (.ref fF), .val (.ref fT), .val (.ref fF), .unset, .unset] [(.int (-1 : Int32))])) (fun t kt => st6 t kt) ?_
    refine Go.st (S' := T6.setTop (mkF m 72 #[.val (.int p0), .val (.int (0 : Int32)), .val (.ref fF), .val (.ref fT), .val (.ref fF), .unset, .unset] [(.int ((-1) : Int32)), (.int (-1 : Int32))])) (fun t kt => XS.iconst X6.here hx rfl (hb hby at_71) kt) ?_
    refine Go.st (S' := T6.setTop (mkF m 77 #[.val (.int p0), .val (.int (0 : Int32)), .val (.ref fF), .val (.ref fT), .val (.ref fF), .unset, .unset] [])) (fun t kt => XS.icmpYes X6.here hx rfl (pc0 := 72) (pc' := 77) rfl (hb hby at_72) rfl (XT.ii_eq_t (by decide)) (by decide) (by decide) kt) ?_
    refine Go.st (S' := T6.setTop (mkF m 78 #[.val (.int p0), .val (.int (0 : Int32)), .val (.ref fF), .val (.ref fT), .val (.ref fF), .unset, .unset] [(.ref fF)])) (fun t kt => XS.aloadN X6.here hx rfl (hb hby at_77) rfl rfl kt) ?_
    refine Go.st (S' := T6.setTop (mkF m 79 #[.val (.int p0), .val (.int (0 : Int32)), .val (.ref fF), .val (.ref fT), .val (.ref fF), .unset, .unset] [(.int (0 : Int32)), (.ref fF)])) (fun t kt => XS.iloadN X6.here hx rfl (hb hby at_78) rfl kt) ?_
    refine Go.stat X6 hx hZ hown (hw _ (List.mem_of_getElem? (i := 0) rfl)) (hw _ (List.mem_of_getElem? (i := 1) rfl)) (hw _ (List.mem_of_getElem? (i := 2) rfl)) (hw _ (List.mem_of_getElem? (i := 3) rfl)) (by decide) (argsL := [(.int (0 : Int32))]) (rest := [(.ref fF)]) (rmC0 l Z a0 hw fT fF h0 n0 Z0 S_t S_f) e6 rfl (by rw [hml]; rfl) pd__Z_Lcom_example_sunder_sunder_query_Formula_ rfl (hb hby at_79) 1 (Nat.le_refl _) (by decide) (by decide) (by decide) (by decide) ?_
    intro v7 T7 L7 X7 hQ7
    obtain ⟨hv7, N7', e7⟩ := hQ7
    subst hv7
    have N7 := Fr.app N5 N7'
    show Go pP eE below _ (T7.setTop (mkF m 82 #[.val (.int p0), .val (.int (0 : Int32)), .val (.ref fF), .val (.ref fT), .val (.ref fF), .unset, .unset] [(.ref fF), (.ref fF)]))
    refine Go.st (S' := T7.setTop (mkF m 87 #[.val (.int p0), .val (.int (0 : Int32)), .val (.ref fF), .val (.ref fT), .val (.ref fF), .unset, .unset] [])) (fun t kt => XT.acmpYes X7.here hx rfl (pc0 := 82) (pc' := 87) rfl (hb hby at_82) rfl rfl rfl (XT.aa_eq_t rfl) (by decide) (by decide) kt) ?_
    obtain ⟨T8, h8, X8, e8, E8, A8, D8, -, st8⟩ := newO X7 hx hZ hown (hw _ (List.mem_of_getElem? (i := 24) rfl)) (hw _ (List.mem_of_getElem? (i := 25) rfl)) (hw _ (List.mem_of_getElem? (i := 2) rfl)) e7 (g := (mkF m 87 #[.val (.int p0), .val (.int (0 : Int32)), .val (.ref fF), .val (.ref fT), .val (.ref fF), .unset, .unset] [])) rfl (hb hby at_87) (by decide) (by decide)
    obtain ⟨a8, g8⟩ : ∃ z, z = h0.size := ⟨_, rfl⟩
    rw [← g8] at A8 D8 st8
    have Z8 : n0 ≤ h8.size := Nat.le_trans Z0 E8.1
    have F8_interned : Fld Z h8 a8 "com/example/sunder/sunder/query/Formulas" "interned" "Ljava/util/Map;" .null := D8 (Or.inr (hw _ (List.mem_of_getElem? (i := 49) rfl))) (ty := (.object "java/util/Map")) (by decide)
    refine Go.st (S' := T8.setTop (mkF m 90 #[.val (.int p0), .val (.int (0 : Int32)), .val (.ref fF), .val (.ref fT), .val (.ref fF), .unset, .unset] [(.ref a8)])) (fun t kt => st8 t kt) ?_
    refine Go.st (S' := T8.setTop (mkF m 91 #[.val (.int p0), .val (.int (0 : Int32)), .val (.ref fF), .val (.ref fT), .val (.ref fF), .unset, .unset] [(.ref a8), (.ref a8)])) (fun t kt => XS.dup X8.here hx rfl (hb hby at_90) rfl rfl kt) ?_
    refine Go.init X8 hx hZ rfl hown (hw _ (List.mem_of_getElem? (i := 26) rfl)) (hw _ (List.mem_of_getElem? (i := 27) rfl)) (hw _ (List.mem_of_getElem? (i := 28) rfl)) (hw _ (List.mem_of_getElem? (i := 2) rfl)) (by decide) (b := a8) (argsL := []) (rest := [(.ref a8)]) (rmFI l Z a0 hw a8 h8 n0 Z8 A8 (Nat.le_trans Z0 (Nat.le_of_eq g8.symm)) F8_interned) e8 rfl (by rw [hml]; rfl) pd___V rfl (hb hby at_91) 1 (Nat.le_refl _) (by decide) (by decide) (by decide) (by decide) ?_
    intro v9 T9 L9 X9 hQ9
    have f10 := (E_fT.ext E8)
    have f11 := (E_fF.ext E8)
    have f12 := (E_kT.ext E8)
    have f13 := (E_kF.ext E8)
    have f14 := (V_sw.ext E8)
    obtain ⟨hv9, N9', K9', f9_0⟩ := hQ9
    subst hv9
    have N9 := Fr.app N7 N9'
    have Z9 : n0 ≤ T9.heap.size := Nat.le_trans Z8 K9'.1
    have eh9 : T9.heap = T9.heap := rfl
    show Go pP eE below _ (T9.setTop (mkF m 94 #[.val (.int p0), .val (.int (0 : Int32)), .val (.ref fF), .val (.ref fT), .val (.ref fF), .unset, .unset] [(.ref a8)]))
    refine Go.st (S' := T9.setTop (mkF m 96 #[.val (.int p0), .val (.int (0 : Int32)), .val (.ref fF), .val (.ref fT), .val (.ref fF), .val (.ref a8), .unset] [])) (fun t kt => XS.astore X9.here hx rfl (hb hby at_94) rfl rfl rfl kt) ?_
    refine Go.st (S' := T9.setTop (mkF m 98 #[.val (.int p0), .val (.int (0 : Int32)), .val (.ref fF), .val (.ref fT), .val (.ref fF), .val (.ref a8), .unset] [(.ref a8)])) (fun t kt => XS.aload X9.here hx rfl (hb hby at_96) rfl rfl kt) ?_
    refine Go.st (S' := T9.setTop (mkF m 99 #[.val (.int p0), .val (.int (0 : Int32)), .val (.ref fF), .val (.ref fT), .val (.ref fF), .val (.ref a8), .unset] [(.ref fF), (.ref a8)])) (fun t kt => XS.aloadN X9.here hx rfl (hb hby at_98) rfl rfl kt) ?_
    have f15 := (own_sta_keep (S_t.ext E8) K9' (allS (own_obj_exa A8) all0))
    have f16 := (own_sta_keep (S_f.ext E8) K9' (allS (own_obj_exa A8) all0))
    have f17 := (own_sta_keep (S_sw.ext E8) K9' (allS (own_obj_exa A8) all0))
    have f18 := (f14.keep K9' (ninS (Nat.ne_of_lt (by rw [g8]; exact V_sw.lt)) nin0))
    have f19 := ((K_fF.ext E8).keep K9' (ninS (Nat.ne_of_lt (by rw [g8]; exact E_fF.lt)) nin0))
    have f20 := (f13.keep K9')
    have f21 := ((O_kF.ext E8).keep K9' (ninS (Nat.ne_of_lt (by rw [g8]; exact E_kF.lt)) nin0))
    refine Go.virt X9 hx hZ hown (hw _ (List.mem_of_getElem? (i := 50) rfl)) (hw _ (List.mem_of_getElem? (i := 51) rfl)) (notFace_of_selects (mvT (args := #[]) hZ (hw _ (List.mem_of_getElem? (i := 53) rfl)))) (hw _ (List.mem_of_getElem? (i := 53) rfl)) (hw _ (List.mem_of_getElem? (i := 52) rfl)) (hw _ (List.mem_of_getElem? (i := 54) rfl)) (hw _ (List.mem_of_getElem? (i := 2) rfl)) (by decide) (b := a8) (argsL := [(.ref fF)]) (rest := []) (rmNF l Z a0 hw a8 fF fT fF kF sw kS T9.heap n0 Z9 f15 f16 f17 f18 f19 f20 f21) eh9 f9_0 rfl (by rw [hml]; rfl) pd__Lcom_example_sunder_sunder_query_Formula__Lcom_example_sunder_sunder_query_Formula_ rfl (hb hby at_99) 0 (Nat.le_refl _) (by decide) (by decide) (by decide) (by decide) ?_
    intro v22 T22 L22 X22 hQ22
    obtain ⟨hv22, N22', e22⟩ := hQ22
    subst hv22
    have N22 := Fr.app N9 N22'
    show Go pP eE below _ (T22.setTop (mkF m 102 #[.val (.int p0), .val (.int (0 : Int32)), .val (.ref fF), .val (.ref fT), .val (.ref fF), .val (.ref a8), .unset] [(.ref fT)]))
    refine Go.st (S' := T22.setTop (mkF m 103 #[.val (.int p0), .val (.int (0 : Int32)), .val (.ref fF), .val (.ref fT), .val (.ref fF), .val (.ref a8), .unset] [(.ref fT), (.ref fT)])) (fun t kt => XS.aloadN X22.here hx rfl (hb hby at_102) rfl rfl kt) ?_
    refine Go.st (S' := T22.setTop (mkF m 108 #[.val (.int p0), .val (.int (0 : Int32)), .val (.ref fF), .val (.ref fT), .val (.ref fF), .val (.ref a8), .unset] [])) (fun t kt => XT.acmpYes X22.here hx rfl (pc0 := 103) (pc' := 108) rfl (hb hby at_103) rfl rfl rfl (XT.aa_eq_t rfl) (by decide) (by decide) kt) ?_
    obtain ⟨T23, h23, X23, e23, E23, A23, D23, -, st23⟩ := newO X22 hx hZ hown (hw _ (List.mem_of_getElem? (i := 68) rfl)) (hw _ (List.mem_of_getElem? (i := 69) rfl)) (hw _ (List.mem_of_getElem? (i := 70) rfl)) e22 (g := (mkF m 108 #[.val (.int p0), .val (.int (0 : Int32)), .val (.ref fF), .val (.ref fT), .val (.ref fF), .val (.ref a8), .unset] [])) rfl (hb hby at_108) (by decide) (by decide)
    obtain ⟨a23, g23⟩ : ∃ z, z = T9.heap.size := ⟨_, rfl⟩
    rw [← g23] at A23 D23 st23
    have Z23 : n0 ≤ h23.size := Nat.le_trans Z9 E23.1
    have f24 := (f10.keep K9')
    have f25 := (f11.keep K9')
    have f26 := (f12.keep K9')
    have F23_decided : Fld Z h23 a23 "com/example/sunder/sunder/query/Formulas$Decision" "decided" "Ljava/util/Map;" .null := D23 (Or.inr (hw _ (List.mem_of_getElem? (i := 78) rfl))) (ty := (.object "java/util/Map")) (by decide)
    have F23_valuation : Fld Z h23 a23 "com/example/sunder/sunder/query/Formulas$Decision" "valuation" "Lcom/example/sunder/sunder/query/Formulas$Valuation;" .null := D23 (Or.inr (hw _ (List.mem_of_getElem? (i := 80) rfl))) (ty := (.object "com/example/sunder/sunder/query/Formulas$Valuation")) (by decide)
    have F23_conditions : Fld Z h23 a23 "com/example/sunder/sunder/query/Formulas$Decision" "conditions" "Ljava/util/List;" .null := D23 (Or.inr (hw _ (List.mem_of_getElem? (i := 82) rfl))) (ty := (.object "java/util/List")) (by decide)
    refine Go.st (S' := T23.setTop (mkF m 111 #[.val (.int p0), .val (.int (0 : Int32)), .val (.ref fF), .val (.ref fT), .val (.ref fF), .val (.ref a8), .unset] [(.ref a23)])) (fun t kt => st23 t kt) ?_
    refine Go.st (S' := T23.setTop (mkF m 112 #[.val (.int p0), .val (.int (0 : Int32)), .val (.ref fF), .val (.ref fT), .val (.ref fF), .val (.ref a8), .unset] [(.ref a23), (.ref a23)])) (fun t kt => XS.dup X23.here hx rfl (hb hby at_111) rfl rfl kt) ?_
    refine Go.st (S' := T23.setTop (mkF m 113 #[.val (.int p0), .val (.int (0 : Int32)), .val (.ref fF), .val (.ref fT), .val (.ref fF), .val (.ref a8), .unset] [.null, (.ref a23), (.ref a23)])) (fun t kt => XS.aconstNull X23.here hx rfl (hb hby at_112) kt) ?_
    refine Go.st (S' := T23.setTop (mkF m 114 #[.val (.int p0), .val (.int (0 : Int32)), .val (.ref fF), .val (.ref fT), .val (.ref fF), .val (.ref a8), .unset] [.null, .null, (.ref a23), (.ref a23)])) (fun t kt => XS.aconstNull X23.here hx rfl (hb hby at_113) kt) ?_
    refine Go.init X23 hx hZ rfl hown (hw _ (List.mem_of_getElem? (i := 71) rfl)) (hw _ (List.mem_of_getElem? (i := 72) rfl)) (hw _ (List.mem_of_getElem? (i := 73) rfl)) (hw _ (List.mem_of_getElem? (i := 70) rfl)) (by decide) (b := a23) (argsL := [.null, .null]) (rest := [(.ref a23)]) (rmDI l Z a0 hw a23 h23 n0 Z23 A23 (Nat.le_trans Z9 (Nat.le_of_eq g23.symm)) F23_decided F23_valuation F23_conditions) e23 rfl (by rw [hml]; rfl) pd__Lcom_example_sunder_sunder_query_Formulas_Valuation_Ljava_util_List__V rfl (hb hby at_114) 1 (Nat.le_refl _) (by decide) (by decide) (by decide) (by decide) ?_
    intro v27 T27 L27 X27 hQ27
    have f28 := (f24.ext E23)
    have f29 := (f25.ext E23)
    have f30 := (f26.ext E23)
    have f31 := (f20.ext E23)
    have f32 := (f9_0.ext E23)
    have f33 := (f18.ext E23)
    obtain ⟨hv27, N27', K27', f27_0⟩ := hQ27
    subst hv27
    have N27 := Fr.app N22 N27'
    have Z27 : n0 ≤ T27.heap.size := Nat.le_trans Z23 K27'.1
    have eh27 : T27.heap = T27.heap := rfl
    show Go pP eE below _ (T27.setTop (mkF m 117 #[.val (.int p0), .val (.int (0 : Int32)), .val (.ref fF), .val (.ref fT), .val (.ref fF), .val (.ref a8), .unset] [(.ref a23)]))
    refine Go.st (S' := T27.setTop (mkF m 119 #[.val (.int p0), .val (.int (0 : Int32)), .val (.ref fF), .val (.ref fT), .val (.ref fF), .val (.ref a8), .val (.ref a23)] [])) (fun t kt => XS.astore X27.here hx rfl (hb hby at_117) rfl rfl rfl kt) ?_
    refine Go.st (S' := T27.setTop (mkF m 121 #[.val (.int p0), .val (.int (0 : Int32)), .val (.ref fF), .val (.ref fT), .val (.ref fF), .val (.ref a8), .val (.ref a23)] [(.ref a23)])) (fun t kt => XS.aload X27.here hx rfl (hb hby at_119) rfl rfl kt) ?_
    refine Go.st (S' := T27.setTop (mkF m 122 #[.val (.int p0), .val (.int (0 : Int32)), .val (.ref fF), .val (.ref fT), .val (.ref fF), .val (.ref a8), .val (.ref a23)] [(.ref fF), (.ref a23)])) (fun t kt => XS.aloadN X27.here hx rfl (hb hby at_121) rfl rfl kt) ?_
    have f34 := (own_sta_keep (f15.ext E23) K27' (allS (own_obj_exa A23) all0))
    have f35 := (own_sta_keep (f16.ext E23) K27' (allS (own_obj_exa A23) all0))
    have f36 := (own_sta_keep ((own_sta_keep (S_kt.ext E8) K9' (allS (own_obj_exa A8) all0)).ext E23) K27' (allS (own_obj_exa A23) all0))
    have f37 := (own_sta_keep ((own_sta_keep (S_kf.ext E8) K9' (allS (own_obj_exa A8) all0)).ext E23) K27' (allS (own_obj_exa A23) all0))
    have f38 := ((f19.ext E23).keep K27' (ninS (Nat.ne_of_lt (by rw [g23]; exact f25.lt)) nin0))
    have f39 := (f29.keep K27')
    refine Go.virt X27 hx hZ hown (hw _ (List.mem_of_getElem? (i := 83) rfl)) (hw _ (List.mem_of_getElem? (i := 84) rfl)) (notFace_of_selects (mvT (args := #[]) hZ (hw _ (List.mem_of_getElem? (i := 86) rfl)))) (hw _ (List.mem_of_getElem? (i := 86) rfl)) (hw _ (List.mem_of_getElem? (i := 85) rfl)) (hw _ (List.mem_of_getElem? (i := 87) rfl)) (hw _ (List.mem_of_getElem? (i := 70) rfl)) (by decide) (b := a23) (argsL := [(.ref fF)]) (rest := []) (rmEF l Z a0 hw a23 fT fF kT kF T27.heap n0 Z27 f34 f35 f36 f37 f38 f39 hne hnf) eh27 f27_0 rfl (by rw [hml]; rfl) pd__Lcom_example_sunder_sunder_query_Formula__Z rfl (hb hby at_122) 0 (Nat.le_refl _) (by decide) (by decide) (by decide) (by decide) ?_
    intro v40 T40 L40 X40 hQ40
    obtain ⟨hv40, N40', e40⟩ := hQ40
    subst hv40
    have N40 := Fr.app N27 N40'
    show Go pP eE below _ (T40.setTop (mkF m 125 #[.val (.int p0), .val (.int (0 : Int32)), .val (.ref fF), .val (.ref fT), .val (.ref fF), .val (.ref a8), .val (.ref a23)] [(.int (0 : Int32))]))
    refine Go.st (S' := T40.setTop (mkF m 126 #[.val (.int p0), .val (.int (0 : Int32)), .val (.ref fF), .val (.ref fT), .val (.ref fF), .val (.ref a8), .val (.ref a23)] [(.int (0 : Int32)), (.int (0 : Int32))])) (fun t kt => XS.iloadN X40.here hx rfl (hb hby at_125) rfl kt) ?_
    refine Go.st (S' := T40.setTop (mkF m 129 #[.val (.int p0), .val (.int (0 : Int32)), .val (.ref fF), .val (.ref fT), .val (.ref fF), .val (.ref a8), .val (.ref a23)] [])) (fun t kt => XS.icmpNo X40.here hx rfl (hb hby at_126) rfl (XT.ii_ne_f (by decide)) kt) ?_
    refine Go.st (S' := T40.setTop (mkF m 131 #[.val (.int p0), .val (.int (0 : Int32)), .val (.ref fF), .val (.ref fT), .val (.ref fF), .val (.ref a8), .val (.ref a23)] [(.ref a23)])) (fun t kt => XS.aload X40.here hx rfl (hb hby at_129) rfl rfl kt) ?_
    refine Go.st (S' := T40.setTop (mkF m 132 #[.val (.int p0), .val (.int (0 : Int32)), .val (.ref fF), .val (.ref fT), .val (.ref fF), .val (.ref a8), .val (.ref a23)] [(.ref fT), (.ref a23)])) (fun t kt => XS.aloadN X40.here hx rfl (hb hby at_131) rfl rfl kt) ?_
    have f41 := ((((K_fT.ext E8).keep K9' (ninS (Nat.ne_of_lt (by rw [g8]; exact E_fT.lt)) nin0)).ext E23).keep K27' (ninS (Nat.ne_of_lt (by rw [g23]; exact f24.lt)) nin0))
    have f42 := (f28.keep K27')
    refine Go.virt X40 hx hZ hown (hw _ (List.mem_of_getElem? (i := 83) rfl)) (hw _ (List.mem_of_getElem? (i := 84) rfl)) (notFace_of_selects (mvT (args := #[]) hZ (hw _ (List.mem_of_getElem? (i := 86) rfl)))) (hw _ (List.mem_of_getElem? (i := 86) rfl)) (hw _ (List.mem_of_getElem? (i := 85) rfl)) (hw _ (List.mem_of_getElem? (i := 87) rfl)) (hw _ (List.mem_of_getElem? (i := 70) rfl)) (by decide) (b := a23) (argsL := [(.ref fT)]) (rest := []) (rmET l Z a0 hw a23 fT fF kT kF T27.heap n0 Z27 f34 f35 f36 f37 f41 f42 hne hnf) e40 f27_0 rfl (by rw [hml]; rfl) pd__Lcom_example_sunder_sunder_query_Formula__Z rfl (hb hby at_132) 0 (Nat.le_refl _) (by decide) (by decide) (by decide) (by decide) ?_
    intro v43 T43 L43 X43 hQ43
    obtain ⟨hv43, N43', e43⟩ := hQ43
    subst hv43
    have N43 := Fr.app N40 N43'
    show Go pP eE below _ (T43.setTop (mkF m 135 #[.val (.int p0), .val (.int (0 : Int32)), .val (.ref fF), .val (.ref fT), .val (.ref fF), .val (.ref a8), .val (.ref a23)] [(.int (1 : Int32))]))
    refine Go.st (S' := T43.setTop (mkF m 136 #[.val (.int p0), .val (.int (0 : Int32)), .val (.ref fF), .val (.ref fT), .val (.ref fF), .val (.ref a8), .val (.ref a23)] [(.int (0 : Int32)), (.int (1 : Int32))])) (fun t kt => XS.iloadN X43.here hx rfl (hb hby at_135) rfl kt) ?_
    refine Go.st (S' := T43.setTop (mkF m 139 #[.val (.int p0), .val (.int (0 : Int32)), .val (.ref fF), .val (.ref fT), .val (.ref fF), .val (.ref a8), .val (.ref a23)] [(.int (1 : Int32))])) (fun t kt => XS.ifNo X43.here hx rfl (hb hby at_136) rfl (XT.i0_ne_f (by decide)) kt) ?_
    refine Go.st (S' := T43.setTop (mkF m 140 #[.val (.int p0), .val (.int (0 : Int32)), .val (.ref fF), .val (.ref fT), .val (.ref fF), .val (.ref a8), .val (.ref a23)] [(.int (1 : Int32)), (.int (1 : Int32))])) (fun t kt => XS.iconst X43.here hx rfl (hb hby at_139) kt) ?_
    refine Go.st (S' := T43.setTop (mkF m 144 #[.val (.int p0), .val (.int (0 : Int32)), .val (.ref fF), .val (.ref fT), .val (.ref fF), .val (.ref a8), .val (.ref a23)] [(.int (1 : Int32)), (.int (1 : Int32))])) (fun t kt => XS.goto X43.here hx rfl (pc0 := 140) (pc' := 144) rfl (hb hby at_140) (by decide) (by decide) kt) ?_
    refine Go.st (S' := T43.setTop (mkF m 147 #[.val (.int p0), .val (.int (0 : Int32)), .val (.ref fF), .val (.ref fT), .val (.ref fF), .val (.ref a8), .val (.ref a23)] [])) (fun t kt => XS.icmpNo X43.here hx rfl (hb hby at_144) rfl (XT.ii_ne_f (by decide)) kt) ?_
    refine Go.st (S' := T43.setTop (mkF m 148 #[.val (.int p0), .val (.int (0 : Int32)), .val (.ref fF), .val (.ref fT), .val (.ref fF), .val (.ref a8), .val (.ref a23)] [(.int (1 : Int32))])) (fun t kt => XS.iconst X43.here hx rfl (hb hby at_147) kt) ?_
    refine Go.st (S' := T43.setTop (mkF m 152 #[.val (.int p0), .val (.int (0 : Int32)), .val (.ref fF), .val (.ref fT), .val (.ref fF), .val (.ref a8), .val (.ref a23)] [(.int (1 : Int32))])) (fun t kt => XS.goto X43.here hx rfl (pc0 := 148) (pc' := 152) rfl (hb hby at_148) (by decide) (by decide) kt) ?_
    exact ret_b X43 hx hlk hret (hb hby at_152) (by decide) (by decide) (⟨rfl, N43⟩)
  · refine Go.st (S' := T.setTop (mkF m 6 #[.val (.int p0), .unset, .unset, .unset, .unset, .unset, .unset] [])) (fun t kt => XS.ifNo X.here hx rfl (hb hby at_3) rfl (XT.i0_eq_f hc3_1) kt) ?_
    refine Go.st (S' := T.setTop (mkF m 7 #[.val (.int p0), .unset, .unset, .unset, .unset, .unset, .unset] [(.int (1 : Int32))])) (fun t kt => XS.iconst X.here hx rfl (hb hby at_6) kt) ?_
    refine Go.st (S' := T.setTop (mkF m 11 #[.val (.int p0), .unset, .unset, .unset, .unset, .unset, .unset] [(.int (1 : Int32))])) (fun t kt => XS.goto X.here hx rfl (pc0 := 7) (pc' := 11) rfl (hb hby at_7) (by decide) (by decide) kt) ?_
    refine Go.st (S' := T.setTop (mkF m 12 #[.val (.int p0), .val (.int (1 : Int32)), .unset, .unset, .unset, .unset, .unset] [])) (fun t kt => XS.istoreN X.here hx rfl (hb hby at_11) rfl rfl kt) ?_
    refine Go.st (S' := T.setTop (mkF m 13 #[.val (.int p0), .val (.int (1 : Int32)), .unset, .unset, .unset, .unset, .unset] [(.int (1 : Int32))])) (fun t kt => XS.iloadN X.here hx rfl (hb hby at_12) rfl kt) ?_
    refine Go.stat X hx hZ hown (hw _ (List.mem_of_getElem? (i := 0) rfl)) (hw _ (List.mem_of_getElem? (i := 1) rfl)) (hw _ (List.mem_of_getElem? (i := 2) rfl)) (hw _ (List.mem_of_getElem? (i := 3) rfl)) (by decide) (argsL := [(.int (1 : Int32))]) (rest := []) (rmC1 l Z a0 hw fT fF h0 n0 Z0 S_t S_f) eT rfl (by rw [hml]; rfl) pd__Z_Lcom_example_sunder_sunder_query_Formula_ rfl (hb hby at_13) 0 (Nat.le_refl _) (by decide) (by decide) (by decide) (by decide) ?_
    intro v44 T44 L44 X44 hQ44
    obtain ⟨hv44, N44', e44⟩ := hQ44
    subst hv44
    have N44 := Fr.app N0 N44'
    show Go pP eE below _ (T44.setTop (mkF m 16 #[.val (.int p0), .val (.int (1 : Int32)), .unset, .unset, .unset, .unset, .unset] [(.ref fT)]))
    refine Go.st (S' := T44.setTop (mkF m 17 #[.val (.int p0), .val (.int (1 : Int32)), .val (.ref fT), .unset, .unset, .unset, .unset] [])) (fun t kt => XS.astoreN X44.here hx rfl (hb hby at_16) rfl rfl rfl kt) ?_
    refine Go.st (S' := T44.setTop (mkF m 18 #[.val (.int p0), .val (.int (1 : Int32)), .val (.ref fT), .unset, .unset, .unset, .unset] [(.int (1 : Int32))])) (fun t kt => XS.iloadN X44.here hx rfl (hb hby at_17) rfl kt) ?_
    refine Go.st (S' := T44.setTop (mkF m 25 #[.val (.int p0), .val (.int (1 : Int32)), .val (.ref fT), .unset, .unset, .unset, .unset] [])) (fun t kt => XS.ifYes X44.here hx rfl (pc0 := 18) (pc' := 25) rfl (hb hby at_18) rfl (XT.i0_ne_t (by decide)) (by decide) (by decide) kt) ?_
    refine Go.st (S' := T44.setTop (mkF m 26 #[.val (.int p0), .val (.int (1 : Int32)), .val (.ref fT), .unset, .unset, .unset, .unset] [(.int (0 : Int32))])) (fun t kt => XS.iconst X44.here hx rfl (hb hby at_25) kt) ?_
    refine Go.stat X44 hx hZ hown (hw _ (List.mem_of_getElem? (i := 0) rfl)) (hw _ (List.mem_of_getElem? (i := 1) rfl)) (hw _ (List.mem_of_getElem? (i := 2) rfl)) (hw _ (List.mem_of_getElem? (i := 3) rfl)) (by decide) (argsL := [(.int (0 : Int32))]) (rest := []) (rmC0 l Z a0 hw fT fF h0 n0 Z0 S_t S_f) e44 rfl (by rw [hml]; rfl) pd__Z_Lcom_example_sunder_sunder_query_Formula_ rfl (hb hby at_26) 0 (Nat.le_refl _) (by decide) (by decide) (by decide) (by decide) ?_
    intro v45 T45 L45 X45 hQ45
    obtain ⟨hv45, N45', e45⟩ := hQ45
    subst hv45
    have N45 := Fr.app N44 N45'
    show Go pP eE below _ (T45.setTop (mkF m 29 #[.val (.int p0), .val (.int (1 : Int32)), .val (.ref fT), .unset, .unset, .unset, .unset] [(.ref fF)]))
    refine Go.st (S' := T45.setTop (mkF m 30 #[.val (.int p0), .val (.int (1 : Int32)), .val (.ref fT), .val (.ref fF), .unset, .unset, .unset] [])) (fun t kt => XS.astoreN X45.here hx rfl (hb hby at_29) rfl rfl rfl kt) ?_
    refine Go.st (S' := T45.setTop (mkF m 31 #[.val (.int p0), .val (.int (1 : Int32)), .val (.ref fT), .val (.ref fF), .unset, .unset, .unset] [(.int (1 : Int32))])) (fun t kt => XS.iloadN X45.here hx rfl (hb hby at_30) rfl kt) ?_
    refine Go.st (S' := T45.setTop (mkF m 34 #[.val (.int p0), .val (.int (1 : Int32)), .val (.ref fT), .val (.ref fF), .unset, .unset, .unset] [])) (fun t kt => XS.ifNo X45.here hx rfl (hb hby at_31) rfl (XT.i0_eq_f (by decide)) kt) ?_
    obtain ⟨T46, X46, e46, st46⟩ := getS X45 hx hZ (host := "") hown (hw _ (List.mem_of_getElem? (i := 90) rfl)) Via.refl e45 S_t (g := (mkF m 34 #[.val (.int p0), .val (.int (1 : Int32)), .val (.ref fT), .val (.ref fF), .unset, .unset, .unset] [])) rfl (hb hby at_34)
    refine Go.st (S' := T46.setTop (mkF m 37 #[.val (.int p0), .val (.int (1 : Int32)), .val (.ref fT), .val (.ref fF), .unset, .unset, .unset] [(.ref fT)])) (fun t kt => st46 t kt) ?_
    refine Go.st (S' := T46.setTop (mkF m 43 #[.val (.int p0), .val (.int (1 : Int32)), .val (.ref fT), .val (.ref fF), .unset, .unset, .unset] [(.ref fT)])) (fun t kt => XS.goto X46.here hx rfl (pc0 := 37) (pc' := 43) rfl (hb hby at_37) (by decide) (by decide) kt) ?_
    refine Go.st (S' := T46.setTop (mkF m 45 #[.val (.int p0), .val (.int (1 : Int32)), .val (.ref fT), .val (.ref fF), .val (.ref fT), .unset, .unset] [])) (fun t kt => XS.astore X46.here hx rfl (hb hby at_43) rfl rfl rfl kt) ?_
    refine Go.st (S' := T46.setTop (mkF m 46 #[.val (.int p0), .val (.int (1 : Int32)), .val (.ref fT), .val (.ref fF), .val (.ref fT), .unset, .unset] [(.ref fT)])) (fun t kt => XS.aloadN X46.here hx rfl (hb hby at_45) rfl rfl kt) ?_
    refine Go.st (S' := T46.setTop (mkF m 48 #[.val (.int p0), .val (.int (1 : Int32)), .val (.ref fT), .val (.ref fF), .val (.ref fT), .unset, .unset] [(.ref fT), (.ref fT)])) (fun t kt => XS.aload X46.here hx rfl (hb hby at_46) rfl rfl kt) ?_
    refine Go.st (S' := T46.setTop (mkF m 53 #[.val (.int p0), .val (.int (1 : Int32)), .val (.ref fT), .val (.ref fF), .val (.ref fT), .unset, .unset] [])) (fun t kt => XT.acmpYes X46.here hx rfl (pc0 := 48) (pc' := 53) rfl (hb hby at_48) rfl rfl rfl (XT.aa_eq_t rfl) (by decide) (by decide) kt) ?_
    refine Go.st (S' := T46.setTop (mkF m 54 #[.val (.int p0), .val (.int (1 : Int32)), .val (.ref fT), .val (.ref fF), .val (.ref fT), .unset, .unset] [(.ref fT)])) (fun t kt => XS.aloadN X46.here hx rfl (hb hby at_53) rfl rfl kt) ?_
    refine Go.st (S' := T46.setTop (mkF m 55 #[.val (.int p0), .val (.int (1 : Int32)), .val (.ref fT), .val (.ref fF), .val (.ref fT), .unset, .unset] [(.ref fF), (.ref fT)])) (fun t kt => XS.aloadN X46.here hx rfl (hb hby at_54) rfl rfl kt) ?_
    refine Go.st (S' := T46.setTop (mkF m 60 #[.val (.int p0), .val (.int (1 : Int32)), .val (.ref fT), .val (.ref fF), .val (.ref fT), .unset, .unset] [])) (fun t kt => XT.acmpYes X46.here hx rfl (pc0 := 55) (pc' := 60) rfl (hb hby at_55) rfl rfl rfl (XT.aa_ne_t (fun q => hnf (Value.ref.inj q))) (by decide) (by decide) kt) ?_
    refine Go.st (S' := T46.setTop (mkF m 61 #[.val (.int p0), .val (.int (1 : Int32)), .val (.ref fT), .val (.ref fF), .val (.ref fT), .unset, .unset] [(.ref fT)])) (fun t kt => XS.aloadN X46.here hx rfl (hb hby at_60) rfl rfl kt) ?_
    refine Go.virt X46 hx hZ hown (hw _ (List.mem_of_getElem? (i := 9) rfl)) (hw _ (List.mem_of_getElem? (i := 10) rfl)) (notFace_of_selects (mvT (args := #[]) hZ (hw _ (List.mem_of_getElem? (i := 12) rfl)))) (hw _ (List.mem_of_getElem? (i := 12) rfl)) (hw _ (List.mem_of_getElem? (i := 11) rfl)) (hw _ (List.mem_of_getElem? (i := 14) rfl)) (hw _ (List.mem_of_getElem? (i := 13) rfl)) (by decide) (b := fT) (argsL := []) (rest := []) (rmIT l Z a0 hw fT kT kF h0 n0 Z0 S_kt S_kf K_fT hne) e46 E_fT rfl (by rw [hml]; rfl) pd___Z rfl (hb hby at_61) 0 (Nat.le_refl _) (by decide) (by decide) (by decide) (by decide) ?_
    intro v47 T47 L47 X47 hQ47
    obtain ⟨hv47, N47', e47⟩ := hQ47
    subst hv47
    have N47 := Fr.app N45 N47'
    show Go pP eE below _ (T47.setTop (mkF m 64 #[.val (.int p0), .val (.int (1 : Int32)), .val (.ref fT), .val (.ref fF), .val (.ref fT), .unset, .unset] [(.int (1 : Int32))]))
    refine Go.st (S' := T47.setTop (mkF m 67 #[.val (.int p0), .val (.int (1 : Int32)), .val (.ref fT), .val (.ref fF), .val (.ref fT), .unset, .unset] [])) (fun t kt => XS.ifNo X47.here hx rfl (hb hby at_64) rfl (XT.i0_eq_f (by decide)) kt) ?_
    refine Go.st (S' := T47.setTop (mkF m 68 #[.val (.int p0), .val (.int (1 : Int32)), .val (.ref fT), .val (.ref fF), .val (.ref fT), .unset, .unset] [(.ref fT)])) (fun t kt => XS.aloadN X47.here hx rfl (hb hby at_67) rfl rfl kt) ?_
    obtain ⟨T48, X48, e48, st48⟩ := getF X47 hx hZ hown (host := "") (Or.inl (hw _ (List.mem_of_getElem? (i := 22) rfl))) Via.refl e47 I_fT (g := (mkF m 68 #[.val (.int p0), .val (.int (1 : Int32)), .val (.ref fT), .val (.ref fF), .val (.ref fT), .unset, .unset] [(.ref fT)])) rfl rfl (hb hby at_68)
    refine Go.st (S' := T48.setTop (mkF m 71 #[.val (.int p0), .val (.int (1 : Int32)), .val (.ref fT), .val (.ref fF), .val (.ref fT), .unset, .unset] [(.int (-1 : Int32))])) (fun t kt => st48 t kt) ?_
    refine Go.st (S' := T48.setTop (mkF m 72 #[.val (.int p0), .val (.int (1 : Int32)), .val (.ref fT), .val (.ref fF), .val (.ref fT), .unset, .unset] [(.int ((-1) : Int32)), (.int (-1 : Int32))])) (fun t kt => XS.iconst X48.here hx rfl (hb hby at_71) kt) ?_
    refine Go.st (S' := T48.setTop (mkF m 77 #[.val (.int p0), .val (.int (1 : Int32)), .val (.ref fT), .val (.ref fF), .val (.ref fT), .unset, .unset] [])) (fun t kt => XS.icmpYes X48.here hx rfl (pc0 := 72) (pc' := 77) rfl (hb hby at_72) rfl (XT.ii_eq_t (by decide)) (by decide) (by decide) kt) ?_
    refine Go.st (S' := T48.setTop (mkF m 78 #[.val (.int p0), .val (.int (1 : Int32)), .val (.ref fT), .val (.ref fF), .val (.ref fT), .unset, .unset] [(.ref fT)])) (fun t kt => XS.aloadN X48.here hx rfl (hb hby at_77) rfl rfl kt) ?_
    refine Go.st (S' := T48.setTop (mkF m 79 #[.val (.int p0), .val (.int (1 : Int32)), .val (.ref fT), .val (.ref fF), .val (.ref fT), .unset, .unset] [(.int (1 : Int32)), (.ref fT)])) (fun t kt => XS.iloadN X48.here hx rfl (hb hby at_78) rfl kt) ?_
    refine Go.stat X48 hx hZ hown (hw _ (List.mem_of_getElem? (i := 0) rfl)) (hw _ (List.mem_of_getElem? (i := 1) rfl)) (hw _ (List.mem_of_getElem? (i := 2) rfl)) (hw _ (List.mem_of_getElem? (i := 3) rfl)) (by decide) (argsL := [(.int (1 : Int32))]) (rest := [(.ref fT)]) (rmC1 l Z a0 hw fT fF h0 n0 Z0 S_t S_f) e48 rfl (by rw [hml]; rfl) pd__Z_Lcom_example_sunder_sunder_query_Formula_ rfl (hb hby at_79) 1 (Nat.le_refl _) (by decide) (by decide) (by decide) (by decide) ?_
    intro v49 T49 L49 X49 hQ49
    obtain ⟨hv49, N49', e49⟩ := hQ49
    subst hv49
    have N49 := Fr.app N47 N49'
    show Go pP eE below _ (T49.setTop (mkF m 82 #[.val (.int p0), .val (.int (1 : Int32)), .val (.ref fT), .val (.ref fF), .val (.ref fT), .unset, .unset] [(.ref fT), (.ref fT)]))
    refine Go.st (S' := T49.setTop (mkF m 87 #[.val (.int p0), .val (.int (1 : Int32)), .val (.ref fT), .val (.ref fF), .val (.ref fT), .unset, .unset] [])) (fun t kt => XT.acmpYes X49.here hx rfl (pc0 := 82) (pc' := 87) rfl (hb hby at_82) rfl rfl rfl (XT.aa_eq_t rfl) (by decide) (by decide) kt) ?_
    obtain ⟨T50, h50, X50, e50, E50, A50, D50, -, st50⟩ := newO X49 hx hZ hown (hw _ (List.mem_of_getElem? (i := 24) rfl)) (hw _ (List.mem_of_getElem? (i := 25) rfl)) (hw _ (List.mem_of_getElem? (i := 2) rfl)) e49 (g := (mkF m 87 #[.val (.int p0), .val (.int (1 : Int32)), .val (.ref fT), .val (.ref fF), .val (.ref fT), .unset, .unset] [])) rfl (hb hby at_87) (by decide) (by decide)
    obtain ⟨a50, g50⟩ : ∃ z, z = h0.size := ⟨_, rfl⟩
    rw [← g50] at A50 D50 st50
    have Z50 : n0 ≤ h50.size := Nat.le_trans Z0 E50.1
    have F50_interned : Fld Z h50 a50 "com/example/sunder/sunder/query/Formulas" "interned" "Ljava/util/Map;" .null := D50 (Or.inr (hw _ (List.mem_of_getElem? (i := 49) rfl))) (ty := (.object "java/util/Map")) (by decide)
    refine Go.st (S' := T50.setTop (mkF m 90 #[.val (.int p0), .val (.int (1 : Int32)), .val (.ref fT), .val (.ref fF), .val (.ref fT), .unset, .unset] [(.ref a50)])) (fun t kt => st50 t kt) ?_
    refine Go.st (S' := T50.setTop (mkF m 91 #[.val (.int p0), .val (.int (1 : Int32)), .val (.ref fT), .val (.ref fF), .val (.ref fT), .unset, .unset] [(.ref a50), (.ref a50)])) (fun t kt => XS.dup X50.here hx rfl (hb hby at_90) rfl rfl kt) ?_
    refine Go.init X50 hx hZ rfl hown (hw _ (List.mem_of_getElem? (i := 26) rfl)) (hw _ (List.mem_of_getElem? (i := 27) rfl)) (hw _ (List.mem_of_getElem? (i := 28) rfl)) (hw _ (List.mem_of_getElem? (i := 2) rfl)) (by decide) (b := a50) (argsL := []) (rest := [(.ref a50)]) (rmFI l Z a0 hw a50 h50 n0 Z50 A50 (Nat.le_trans Z0 (Nat.le_of_eq g50.symm)) F50_interned) e50 rfl (by rw [hml]; rfl) pd___V rfl (hb hby at_91) 1 (Nat.le_refl _) (by decide) (by decide) (by decide) (by decide) ?_
    intro v51 T51 L51 X51 hQ51
    have f52 := (E_fT.ext E50)
    have f53 := (E_fF.ext E50)
    have f54 := (E_kT.ext E50)
    have f55 := (E_kF.ext E50)
    have f56 := (V_sw.ext E50)
    obtain ⟨hv51, N51', K51', f51_0⟩ := hQ51
    subst hv51
    have N51 := Fr.app N49 N51'
    have Z51 : n0 ≤ T51.heap.size := Nat.le_trans Z50 K51'.1
    have eh51 : T51.heap = T51.heap := rfl
    show Go pP eE below _ (T51.setTop (mkF m 94 #[.val (.int p0), .val (.int (1 : Int32)), .val (.ref fT), .val (.ref fF), .val (.ref fT), .unset, .unset] [(.ref a50)]))
    refine Go.st (S' := T51.setTop (mkF m 96 #[.val (.int p0), .val (.int (1 : Int32)), .val (.ref fT), .val (.ref fF), .val (.ref fT), .val (.ref a50), .unset] [])) (fun t kt => XS.astore X51.here hx rfl (hb hby at_94) rfl rfl rfl kt) ?_
    refine Go.st (S' := T51.setTop (mkF m 98 #[.val (.int p0), .val (.int (1 : Int32)), .val (.ref fT), .val (.ref fF), .val (.ref fT), .val (.ref a50), .unset] [(.ref a50)])) (fun t kt => XS.aload X51.here hx rfl (hb hby at_96) rfl rfl kt) ?_
    refine Go.st (S' := T51.setTop (mkF m 99 #[.val (.int p0), .val (.int (1 : Int32)), .val (.ref fT), .val (.ref fF), .val (.ref fT), .val (.ref a50), .unset] [(.ref fT), (.ref a50)])) (fun t kt => XS.aloadN X51.here hx rfl (hb hby at_98) rfl rfl kt) ?_
    have f57 := (own_sta_keep (S_t.ext E50) K51' (allS (own_obj_exa A50) all0))
    have f58 := (own_sta_keep (S_f.ext E50) K51' (allS (own_obj_exa A50) all0))
    have f59 := (own_sta_keep (S_sw.ext E50) K51' (allS (own_obj_exa A50) all0))
    have f60 := (f56.keep K51' (ninS (Nat.ne_of_lt (by rw [g50]; exact V_sw.lt)) nin0))
    have f61 := ((K_fT.ext E50).keep K51' (ninS (Nat.ne_of_lt (by rw [g50]; exact E_fT.lt)) nin0))
    have f62 := (f54.keep K51')
    have f63 := ((O_kT.ext E50).keep K51' (ninS (Nat.ne_of_lt (by rw [g50]; exact E_kT.lt)) nin0))
    refine Go.virt X51 hx hZ hown (hw _ (List.mem_of_getElem? (i := 50) rfl)) (hw _ (List.mem_of_getElem? (i := 51) rfl)) (notFace_of_selects (mvT (args := #[]) hZ (hw _ (List.mem_of_getElem? (i := 53) rfl)))) (hw _ (List.mem_of_getElem? (i := 53) rfl)) (hw _ (List.mem_of_getElem? (i := 52) rfl)) (hw _ (List.mem_of_getElem? (i := 54) rfl)) (hw _ (List.mem_of_getElem? (i := 2) rfl)) (by decide) (b := a50) (argsL := [(.ref fT)]) (rest := []) (rmNT l Z a0 hw a50 fT fT fF kT sw kS T51.heap n0 Z51 f57 f58 f59 f60 f61 f62 f63) eh51 f51_0 rfl (by rw [hml]; rfl) pd__Lcom_example_sunder_sunder_query_Formula__Lcom_example_sunder_sunder_query_Formula_ rfl (hb hby at_99) 0 (Nat.le_refl _) (by decide) (by decide) (by decide) (by decide) ?_
    intro v64 T64 L64 X64 hQ64
    obtain ⟨hv64, N64', e64⟩ := hQ64
    subst hv64
    have N64 := Fr.app N51 N64'
    show Go pP eE below _ (T64.setTop (mkF m 102 #[.val (.int p0), .val (.int (1 : Int32)), .val (.ref fT), .val (.ref fF), .val (.ref fT), .val (.ref a50), .unset] [(.ref fF)]))
    refine Go.st (S' := T64.setTop (mkF m 103 #[.val (.int p0), .val (.int (1 : Int32)), .val (.ref fT), .val (.ref fF), .val (.ref fT), .val (.ref a50), .unset] [(.ref fF), (.ref fF)])) (fun t kt => XS.aloadN X64.here hx rfl (hb hby at_102) rfl rfl kt) ?_
    refine Go.st (S' := T64.setTop (mkF m 108 #[.val (.int p0), .val (.int (1 : Int32)), .val (.ref fT), .val (.ref fF), .val (.ref fT), .val (.ref a50), .unset] [])) (fun t kt => XT.acmpYes X64.here hx rfl (pc0 := 103) (pc' := 108) rfl (hb hby at_103) rfl rfl rfl (XT.aa_eq_t rfl) (by decide) (by decide) kt) ?_
    obtain ⟨T65, h65, X65, e65, E65, A65, D65, -, st65⟩ := newO X64 hx hZ hown (hw _ (List.mem_of_getElem? (i := 68) rfl)) (hw _ (List.mem_of_getElem? (i := 69) rfl)) (hw _ (List.mem_of_getElem? (i := 70) rfl)) e64 (g := (mkF m 108 #[.val (.int p0), .val (.int (1 : Int32)), .val (.ref fT), .val (.ref fF), .val (.ref fT), .val (.ref a50), .unset] [])) rfl (hb hby at_108) (by decide) (by decide)
    obtain ⟨a65, g65⟩ : ∃ z, z = T51.heap.size := ⟨_, rfl⟩
    rw [← g65] at A65 D65 st65
    have Z65 : n0 ≤ h65.size := Nat.le_trans Z51 E65.1
    have f66 := (f52.keep K51')
    have f67 := (f53.keep K51')
    have f68 := (f55.keep K51')
    have F65_decided : Fld Z h65 a65 "com/example/sunder/sunder/query/Formulas$Decision" "decided" "Ljava/util/Map;" .null := D65 (Or.inr (hw _ (List.mem_of_getElem? (i := 78) rfl))) (ty := (.object "java/util/Map")) (by decide)
    have F65_valuation : Fld Z h65 a65 "com/example/sunder/sunder/query/Formulas$Decision" "valuation" "Lcom/example/sunder/sunder/query/Formulas$Valuation;" .null := D65 (Or.inr (hw _ (List.mem_of_getElem? (i := 80) rfl))) (ty := (.object "com/example/sunder/sunder/query/Formulas$Valuation")) (by decide)
    have F65_conditions : Fld Z h65 a65 "com/example/sunder/sunder/query/Formulas$Decision" "conditions" "Ljava/util/List;" .null := D65 (Or.inr (hw _ (List.mem_of_getElem? (i := 82) rfl))) (ty := (.object "java/util/List")) (by decide)
    refine Go.st (S' := T65.setTop (mkF m 111 #[.val (.int p0), .val (.int (1 : Int32)), .val (.ref fT), .val (.ref fF), .val (.ref fT), .val (.ref a50), .unset] [(.ref a65)])) (fun t kt => st65 t kt) ?_
    refine Go.st (S' := T65.setTop (mkF m 112 #[.val (.int p0), .val (.int (1 : Int32)), .val (.ref fT), .val (.ref fF), .val (.ref fT), .val (.ref a50), .unset] [(.ref a65), (.ref a65)])) (fun t kt => XS.dup X65.here hx rfl (hb hby at_111) rfl rfl kt) ?_
    refine Go.st (S' := T65.setTop (mkF m 113 #[.val (.int p0), .val (.int (1 : Int32)), .val (.ref fT), .val (.ref fF), .val (.ref fT), .val (.ref a50), .unset] [.null, (.ref a65), (.ref a65)])) (fun t kt => XS.aconstNull X65.here hx rfl (hb hby at_112) kt) ?_
    refine Go.st (S' := T65.setTop (mkF m 114 #[.val (.int p0), .val (.int (1 : Int32)), .val (.ref fT), .val (.ref fF), .val (.ref fT), .val (.ref a50), .unset] [.null, .null, (.ref a65), (.ref a65)])) (fun t kt => XS.aconstNull X65.here hx rfl (hb hby at_113) kt) ?_
    refine Go.init X65 hx hZ rfl hown (hw _ (List.mem_of_getElem? (i := 71) rfl)) (hw _ (List.mem_of_getElem? (i := 72) rfl)) (hw _ (List.mem_of_getElem? (i := 73) rfl)) (hw _ (List.mem_of_getElem? (i := 70) rfl)) (by decide) (b := a65) (argsL := [.null, .null]) (rest := [(.ref a65)]) (rmDI l Z a0 hw a65 h65 n0 Z65 A65 (Nat.le_trans Z51 (Nat.le_of_eq g65.symm)) F65_decided F65_valuation F65_conditions) e65 rfl (by rw [hml]; rfl) pd__Lcom_example_sunder_sunder_query_Formulas_Valuation_Ljava_util_List__V rfl (hb hby at_114) 1 (Nat.le_refl _) (by decide) (by decide) (by decide) (by decide) ?_
    intro v69 T69 L69 X69 hQ69
    have f70 := (f66.ext E65)
    have f71 := (f67.ext E65)
    have f72 := (f62.ext E65)
    have f73 := (f68.ext E65)
    have f74 := (f51_0.ext E65)
    have f75 := (f60.ext E65)
    obtain ⟨hv69, N69', K69', f69_0⟩ := hQ69
    subst hv69
    have N69 := Fr.app N64 N69'
    have Z69 : n0 ≤ T69.heap.size := Nat.le_trans Z65 K69'.1
    have eh69 : T69.heap = T69.heap := rfl
    show Go pP eE below _ (T69.setTop (mkF m 117 #[.val (.int p0), .val (.int (1 : Int32)), .val (.ref fT), .val (.ref fF), .val (.ref fT), .val (.ref a50), .unset] [(.ref a65)]))
    refine Go.st (S' := T69.setTop (mkF m 119 #[.val (.int p0), .val (.int (1 : Int32)), .val (.ref fT), .val (.ref fF), .val (.ref fT), .val (.ref a50), .val (.ref a65)] [])) (fun t kt => XS.astore X69.here hx rfl (hb hby at_117) rfl rfl rfl kt) ?_
    refine Go.st (S' := T69.setTop (mkF m 121 #[.val (.int p0), .val (.int (1 : Int32)), .val (.ref fT), .val (.ref fF), .val (.ref fT), .val (.ref a50), .val (.ref a65)] [(.ref a65)])) (fun t kt => XS.aload X69.here hx rfl (hb hby at_119) rfl rfl kt) ?_
    refine Go.st (S' := T69.setTop (mkF m 122 #[.val (.int p0), .val (.int (1 : Int32)), .val (.ref fT), .val (.ref fF), .val (.ref fT), .val (.ref a50), .val (.ref a65)] [(.ref fT), (.ref a65)])) (fun t kt => XS.aloadN X69.here hx rfl (hb hby at_121) rfl rfl kt) ?_
    have f76 := (own_sta_keep (f57.ext E65) K69' (allS (own_obj_exa A65) all0))
    have f77 := (own_sta_keep (f58.ext E65) K69' (allS (own_obj_exa A65) all0))
    have f78 := (own_sta_keep ((own_sta_keep (S_kt.ext E50) K51' (allS (own_obj_exa A50) all0)).ext E65) K69' (allS (own_obj_exa A65) all0))
    have f79 := (own_sta_keep ((own_sta_keep (S_kf.ext E50) K51' (allS (own_obj_exa A50) all0)).ext E65) K69' (allS (own_obj_exa A65) all0))
    have f80 := ((f61.ext E65).keep K69' (ninS (Nat.ne_of_lt (by rw [g65]; exact f66.lt)) nin0))
    have f81 := (f70.keep K69')
    refine Go.virt X69 hx hZ hown (hw _ (List.mem_of_getElem? (i := 83) rfl)) (hw _ (List.mem_of_getElem? (i := 84) rfl)) (notFace_of_selects (mvT (args := #[]) hZ (hw _ (List.mem_of_getElem? (i := 86) rfl)))) (hw _ (List.mem_of_getElem? (i := 86) rfl)) (hw _ (List.mem_of_getElem? (i := 85) rfl)) (hw _ (List.mem_of_getElem? (i := 87) rfl)) (hw _ (List.mem_of_getElem? (i := 70) rfl)) (by decide) (b := a65) (argsL := [(.ref fT)]) (rest := []) (rmET l Z a0 hw a65 fT fF kT kF T69.heap n0 Z69 f76 f77 f78 f79 f80 f81 hne hnf) eh69 f69_0 rfl (by rw [hml]; rfl) pd__Lcom_example_sunder_sunder_query_Formula__Z rfl (hb hby at_122) 0 (Nat.le_refl _) (by decide) (by decide) (by decide) (by decide) ?_
    intro v82 T82 L82 X82 hQ82
    obtain ⟨hv82, N82', e82⟩ := hQ82
    subst hv82
    have N82 := Fr.app N69 N82'
    show Go pP eE below _ (T82.setTop (mkF m 125 #[.val (.int p0), .val (.int (1 : Int32)), .val (.ref fT), .val (.ref fF), .val (.ref fT), .val (.ref a50), .val (.ref a65)] [(.int (1 : Int32))]))
    refine Go.st (S' := T82.setTop (mkF m 126 #[.val (.int p0), .val (.int (1 : Int32)), .val (.ref fT), .val (.ref fF), .val (.ref fT), .val (.ref a50), .val (.ref a65)] [(.int (1 : Int32)), (.int (1 : Int32))])) (fun t kt => XS.iloadN X82.here hx rfl (hb hby at_125) rfl kt) ?_
    refine Go.st (S' := T82.setTop (mkF m 129 #[.val (.int p0), .val (.int (1 : Int32)), .val (.ref fT), .val (.ref fF), .val (.ref fT), .val (.ref a50), .val (.ref a65)] [])) (fun t kt => XS.icmpNo X82.here hx rfl (hb hby at_126) rfl (XT.ii_ne_f (by decide)) kt) ?_
    refine Go.st (S' := T82.setTop (mkF m 131 #[.val (.int p0), .val (.int (1 : Int32)), .val (.ref fT), .val (.ref fF), .val (.ref fT), .val (.ref a50), .val (.ref a65)] [(.ref a65)])) (fun t kt => XS.aload X82.here hx rfl (hb hby at_129) rfl rfl kt) ?_
    refine Go.st (S' := T82.setTop (mkF m 132 #[.val (.int p0), .val (.int (1 : Int32)), .val (.ref fT), .val (.ref fF), .val (.ref fT), .val (.ref a50), .val (.ref a65)] [(.ref fF), (.ref a65)])) (fun t kt => XS.aloadN X82.here hx rfl (hb hby at_131) rfl rfl kt) ?_
    have f83 := ((((K_fF.ext E50).keep K51' (ninS (Nat.ne_of_lt (by rw [g50]; exact E_fF.lt)) nin0)).ext E65).keep K69' (ninS (Nat.ne_of_lt (by rw [g65]; exact f67.lt)) nin0))
    have f84 := (f71.keep K69')
    refine Go.virt X82 hx hZ hown (hw _ (List.mem_of_getElem? (i := 83) rfl)) (hw _ (List.mem_of_getElem? (i := 84) rfl)) (notFace_of_selects (mvT (args := #[]) hZ (hw _ (List.mem_of_getElem? (i := 86) rfl)))) (hw _ (List.mem_of_getElem? (i := 86) rfl)) (hw _ (List.mem_of_getElem? (i := 85) rfl)) (hw _ (List.mem_of_getElem? (i := 87) rfl)) (hw _ (List.mem_of_getElem? (i := 70) rfl)) (by decide) (b := a65) (argsL := [(.ref fF)]) (rest := []) (rmEF l Z a0 hw a65 fT fF kT kF T69.heap n0 Z69 f76 f77 f78 f79 f83 f84 hne hnf) e82 f69_0 rfl (by rw [hml]; rfl) pd__Lcom_example_sunder_sunder_query_Formula__Z rfl (hb hby at_132) 0 (Nat.le_refl _) (by decide) (by decide) (by decide) (by decide) ?_
    intro v85 T85 L85 X85 hQ85
    obtain ⟨hv85, N85', e85⟩ := hQ85
    subst hv85
    have N85 := Fr.app N82 N85'
    show Go pP eE below _ (T85.setTop (mkF m 135 #[.val (.int p0), .val (.int (1 : Int32)), .val (.ref fT), .val (.ref fF), .val (.ref fT), .val (.ref a50), .val (.ref a65)] [(.int (0 : Int32))]))
    refine Go.st (S' := T85.setTop (mkF m 136 #[.val (.int p0), .val (.int (1 : Int32)), .val (.ref fT), .val (.ref fF), .val (.ref fT), .val (.ref a50), .val (.ref a65)] [(.int (1 : Int32)), (.int (0 : Int32))])) (fun t kt => XS.iloadN X85.here hx rfl (hb hby at_135) rfl kt) ?_
    refine Go.st (S' := T85.setTop (mkF m 143 #[.val (.int p0), .val (.int (1 : Int32)), .val (.ref fT), .val (.ref fF), .val (.ref fT), .val (.ref a50), .val (.ref a65)] [(.int (0 : Int32))])) (fun t kt => XS.ifYes X85.here hx rfl (pc0 := 136) (pc' := 143) rfl (hb hby at_136) rfl (XT.i0_ne_t (by decide)) (by decide) (by decide) kt) ?_
    refine Go.st (S' := T85.setTop (mkF m 144 #[.val (.int p0), .val (.int (1 : Int32)), .val (.ref fT), .val (.ref fF), .val (.ref fT), .val (.ref a50), .val (.ref a65)] [(.int (0 : Int32)), (.int (0 : Int32))])) (fun t kt => XS.iconst X85.here hx rfl (hb hby at_143) kt) ?_
    refine Go.st (S' := T85.setTop (mkF m 147 #[.val (.int p0), .val (.int (1 : Int32)), .val (.ref fT), .val (.ref fF), .val (.ref fT), .val (.ref a50), .val (.ref a65)] [])) (fun t kt => XS.icmpNo X85.here hx rfl (hb hby at_144) rfl (XT.ii_ne_f (by decide)) kt) ?_
    refine Go.st (S' := T85.setTop (mkF m 148 #[.val (.int p0), .val (.int (1 : Int32)), .val (.ref fT), .val (.ref fF), .val (.ref fT), .val (.ref a50), .val (.ref a65)] [(.int (1 : Int32))])) (fun t kt => XS.iconst X85.here hx rfl (hb hby at_147) kt) ?_
    refine Go.st (S' := T85.setTop (mkF m 152 #[.val (.int p0), .val (.int (1 : Int32)), .val (.ref fT), .val (.ref fF), .val (.ref fT), .val (.ref a50), .val (.ref a65)] [(.int (1 : Int32))])) (fun t kt => XS.goto X85.here hx rfl (pc0 := 148) (pc' := 152) rfl (hb hby at_148) (by decide) (by decide) kt) ?_
    exact ret_b X85 hx hlk hret (hb hby at_152) (by decide) (by decide) (⟨rfl, N85⟩)
theorem own_fld_int {args : Array Value} {s : State} {t : Term} {a : Addr} {C n d : String} {k : Int32} (ht : t.eval args s none [] s = some (.ref a)) (h : (Jvm.Cond.eq (.field t C n d) (.int k)).value args s none s [] = some true) : s.fieldOf? a C n d = some (.int k) := by
  have q := eqv_i (Term.int_eval k) h
  rw [fld_at ht] at q
  exact q
theorem own_fld_ref {args : Array Value} {s : State} {t u : Term} {a b : Addr} {C n d : String} (ht : t.eval args s none [] s = some (.ref a)) (hu : u.eval args s none [] s = some (.ref b)) (h : (Jvm.Cond.eq (.field t C n d) u).value args s none s [] = some true) : s.fieldOf? a C n d = some (.ref b) := by
  obtain ⟨v, w, h1, h2, h3, h4⟩ := cmp_v (Or.inl h)
  cases hu.symm.trans h2
  rw [fld_at ht] at h1
  have hv : v.isRef = true := by cases v <;> simp [Kin, Value.isRef] at h4 ⊢
  have q := gotT (eq_R (by rw [fld_at ht]; exact h1) hu hv rfl) h
  rw [h1, q]
theorem own_ne_static {args : Array Value} {s : State} {t u : Term} {a b : Addr} (ht : t.eval args s none [] s = some (.ref a)) (hu : u.eval args s none [] s = some (.ref b)) (h : (Jvm.Cond.not (.eq t u)).value args s none s [] = some true) : b ≠ a := by
  have q := gotF (eq_R ht hu rfl rfl) (by simpa using not_v h)
  exact fun e => q (by rw [e])
theorem own_elem_int {args : Array Value} {s : State} {t : Term} {a : Addr} {cl : Cell} {ty : FieldType} {j k : Int32} (A : Arr s s.heap a cl ty) (ht : t.eval args s none [] s = some (.ref a)) (h : (Jvm.Cond.eq (.elem t (.int j)) (.int k)).value args s none s [] = some true) : cl.slots[j.toNatClampNeg]? = some (.int k) := by
  exact (elem_in (eqv_i (Term.int_eval k) h) ht (Term.int_eval j) A.1).2
theorem own_arv7 {args : Array Value} {s : State} {t : Term} {a : Addr} {cl : Cell} {k0 k1 k2 k3 k4 k5 k6 : Int32} (hf : Fit s) (A : Arr s s.heap a cl .int) (ht : t.eval args s none [] s = some (.ref a)) (h : (Jvm.Cond.eq (.length t) (.int 7)).value args s none s [] = some true)
    (e0 : cl.slots[(0 : Int32).toNatClampNeg]? = some (.int k0)) (e1 : cl.slots[(1 : Int32).toNatClampNeg]? = some (.int k1)) (e2 : cl.slots[(2 : Int32).toNatClampNeg]? = some (.int k2)) (e3 : cl.slots[(3 : Int32).toNatClampNeg]? = some (.int k3)) (e4 : cl.slots[(4 : Int32).toNatClampNeg]? = some (.int k4)) (e5 : cl.slots[(5 : Int32).toNatClampNeg]? = some (.int k5)) (e6 : cl.slots[(6 : Int32).toNatClampNeg]? = some (.int k6)) :
    Arv s s.heap a cl.cls .int (7 : Int32) [.int k0, .int k1, .int k2, .int k3, .int k4, .int k5, .int k6] (.int (0 : Int32)) := by
  obtain ⟨v, w, h1, h2, h3, -⟩ := cmp_v (Or.inl h)
  have ha := A.fin (Vm.Alike.refl _)
  have hl : cl.slots.size < 2 ^ 31 := by
    by_cases q : cl.slots.size < 2 ^ 31
    · exact q
    · simp [Term.eval, ht, ha, q] at h1
  have e := len_f ht ha hl
  have q := gotT (own_eqI e (Term.int_eval 7)) h
  refine Arv.start hf A hl q (by decide) rfl ?_
  exact ⟨e0, e1, e2, e3, e4, e5, e6, trivial⟩
set_option maxRecDepth 65536 in
set_option maxHeartbeats 40000000 in
theorem comes_1 {Post : Tables → Env → Array Value → State → Outcome → State → Prop} (hpost : ∀ tb e args s v u, (limb_1_1.after args s (.returned v) u = true ∧ limb_1_2.after args s (.returned v) u = true ∧ True) → FrameEnd s (.returned v) u (Jvm.fieldLocs frame_1_writes args s ++ Jvm.arrayLocs frame_1_arrays args s ++ Jvm.staticLocs frame_1_statics s) 16 128 → Post tb e args s (.returned v) u) :
    ArmFor flags0 classFile x code maxLocals ret World_1 tables_1 room_1 Calls_1 rest_1 Pre_1 Post := by
  intro l hfl _ _ p e ha hc hk s m args below hf hA hF happ hP
  obtain ⟨hcalls, hrest, hpre⟩ := hP
  obtain ⟨-, -, -, hnamed, -, hinit0, -, hat⟩ := (Spec.applies_iff hf).mp happ
  obtain ⟨hg, hn⟩ := and_e (Cond.before_iff.mp (show (Jvm.Cond.and given_1 narrow_1).before args s = true from hpre))
  obtain ⟨hcount, hg0⟩ := and_e hg
  obtain ⟨w0, rfl⟩ : ∃ w0 : Value, args = #[w0] := by
    have hs : args.size = 1 := by simpa [Cond.value, given_1] using hcount
    obtain ⟨L⟩ := args
    match L, hs with
    | [w0], _ => exact ⟨w0, rfl⟩
  have hw := fun d (hd : d ∈ tables_1) => atoms_spec (ws := Jvm.Cond.code x code maxLocals ret :: tables_1) hat d (List.mem_cons_of_mem _ hd)
  have hfit : Fit s := fun {y c} hc i hi => by
    obtain ⟨ha, rfl⟩ := Array.getElem?_eq_some_iff.mp hc
    have q := List.all_eq_true.mp ((Array.all_eq_true_iff_forall_mem.mp hF) _ (Array.getElem_mem ha)) i (List.mem_range.mpr hi)
    simpa [Array.getElem?_eq_getElem hi] using q
  obtain ⟨i0, ei0⟩ := is_v hg0
  obtain rfl : w0 = (.int i0) := Option.some.inj ei0
  obtain ⟨n0, hn⟩ := and_e hn
  obtain ⟨n1, hn⟩ := and_e hn
  obtain ⟨n2, hn⟩ := and_e hn
  obtain ⟨n3, hn⟩ := and_e hn
  obtain ⟨n4, hn⟩ := and_e hn
  obtain ⟨n5, hn⟩ := and_e hn
  obtain ⟨n6, hn⟩ := and_e hn
  obtain ⟨n7, hn⟩ := and_e hn
  obtain ⟨n8, hn⟩ := and_e hn
  obtain ⟨n9, hn⟩ := and_e hn
  obtain ⟨n10, hn⟩ := and_e hn
  obtain ⟨n11, hn⟩ := and_e hn
  obtain ⟨n12, hn⟩ := and_e hn
  obtain ⟨n13, hn⟩ := and_e hn
  obtain ⟨n14, hn⟩ := and_e hn
  obtain ⟨n15, hn⟩ := and_e hn
  obtain ⟨n16, hn⟩ := and_e hn
  obtain ⟨n17, hn⟩ := and_e hn
  obtain ⟨n18, n19⟩ := and_e hn
  obtain ⟨fF, vfF⟩ := exa_v n0
  have SfF := Sta.start vfF (Or.inr ⟨(hw _ (List.mem_of_getElem? (i := 2) rfl)), (hw _ (List.mem_of_getElem? (i := 5) rfl))⟩)
  have EfF := Exa.start vfF n0
  obtain ⟨fT, vfT⟩ := exa_v n1
  have SfT := Sta.start vfT (Or.inr ⟨(hw _ (List.mem_of_getElem? (i := 2) rfl)), (hw _ (List.mem_of_getElem? (i := 7) rfl))⟩)
  have EfT := Exa.start vfT n1
  obtain ⟨kF, vkF⟩ := exa_v n3
  have SkF := Sta.start vkF (Or.inr ⟨(hw _ (List.mem_of_getElem? (i := 17) rfl)), (hw _ (List.mem_of_getElem? (i := 18) rfl))⟩)
  have EkF := Exa.start vkF n3
  obtain ⟨kT, vkT⟩ := exa_v n5
  have SkT := Sta.start vkT (Or.inr ⟨(hw _ (List.mem_of_getElem? (i := 17) rfl)), (hw _ (List.mem_of_getElem? (i := 20) rfl))⟩)
  have EkT := Exa.start vkT n5
  have hnf : fT ≠ fF := own_ne_static vfF vfT n2
  have KfF := Fld.start (own_fld_ref vfF vkF n4)
  have OkF := Fld.start (own_fld_int vkF n6)
  have OkT := Fld.start (own_fld_int vkT n7)
  have IfF := Fld.start (own_fld_int vfF n8)
  obtain ⟨sw, vsw⟩ := arr_v n9
  have Ssw := Sta.start vsw (Or.inr ⟨(hw _ (List.mem_of_getElem? (i := 56) rfl)), (hw _ (List.mem_of_getElem? (i := 57) rfl))⟩)
  obtain ⟨csw, Asw⟩ := Arr.start vsw n9
  have lsw := n10
  have KfT := Fld.start (own_fld_ref vfT vkT n11)
  have IfT := Fld.start (own_fld_int vfT n12)
  have e0 := own_elem_int Asw vsw n13
  have e1 := own_elem_int Asw vsw n14
  have e2 := own_elem_int Asw vsw n15
  have e3 := own_elem_int Asw vsw n16
  have e4 := own_elem_int Asw vsw n17
  have e5 := own_elem_int Asw vsw n18
  have e6 := own_elem_int Asw vsw n19
  have Vsw := own_arv7 hfit Asw vsw lsw e0 e1 e2 e3 e4 e5 e6
  obtain ⟨n, o, h1, h2, h3, _, L, rfl, ⟨rfl, N⟩, hq⟩ := rm0 l s _ hw i0 s.heap s.heap.size (Nat.le_refl _) fT fF kT kF sw _ SfT SfF SkT SkF Ssw Vsw EfT KfT IfT EfF KfF IfF EkT OkT EkF OkF (Fld.ne OkT OkF (by decide)) hnf tables_1 p e ha hc hk s m _ below hf ((Spec.applies_iff_loose hf).mp happ).1 ⟨rfl, State.Warmed39.refl s, rfl⟩ trivial
  refine ⟨n, _, h1, h2, h3, hpost _ _ _ _ _ _ ⟨Cond.after_iff.mpr rfl, Cond.after_iff.mpr (eq_i res_at (Term.int_eval (1)) rfl), trivial⟩ ⟨hq.1, hq.2.1, (hq.2.2.sift fun y hy => Or.inr (N y hy)).mono (by decide) (by decide)⟩⟩
theorem main_1_1 : Claimed_1_1 := comes_1 fun _ _ _ _ _ _ h hF => ⟨h.1, hF⟩
theorem main_1_2 : Claimed_1_2 := comes_1 fun _ _ _ _ _ _ h hF => ⟨h.2.1, hF⟩
end Jvm.Pilot.@@N@@
namespace Jvm.Pilot.@@N@@
open Jvm Jvm.ClassFile Sem Op Lib Jvm.Free Jvm.Stand Jvm.Pilot.@@N@@.Jvm.D
/-! MADE BY PROGRAM (witnessworld.py) out of the Statement's table words and the real class files: 19 classes; the members and pool entries that the words name. The judged class is class 1, her method 1. -/
namespace start1
open Jvm.ClassFile
def u (s : String) : CpInfo := .utf8 (stringToUtf16 s)
/-- a pool by its gaps: so many unusable entries, then the entry; so many at the end -/
def gap : Nat → List CpInfo → List CpInfo
  | 0, r => r
  | n + 1, r => .unusable :: gap n r
def poolList (es : List (Nat × CpInfo)) (last : Nat) : List CpInfo := es.foldr (fun e r => gap e.1 (e.2 :: r)) (gap last [])
def pool (es : List (Nat × CpInfo)) (last : Nat) : Array CpInfo := ⟨poolList es last⟩
def fileOf (pool : Array CpInfo) (this : Nat) (attrs : Array Attribute := #[]) (ms : Array MethodInfo := #[]) (fl : Nat := 33) (sup : Nat := 0) (ifs : Array Nat := #[]) (fds : Array FieldInfo := #[]) : ClassFile where
  minorVersion := 0
  majorVersion := 65
  constantPool := pool
  accessFlags := fl
  thisClass := this
  superClass := sup
  interfaces := ifs
  fields := fds
  methods := ms
  attributes := attrs
def plain (name : String) (sup : Option ClassId) : Class where
  name := name
  kind := .ordinary
  loader := none
  accessFlags := 33
  super := sup
  interfaces := #[]
  cf := none
  fields := #[]
  methods := #[]
  instanceTypes := #[]
  staticTypes := #[]
  resolved := #[]
  callSites := []
  init := .initialized
  statics := none
  mirror := none

def pool0 : Array CpInfo := pool [(5, u "<init>"), (0, u "()V"), (1, .class_ 10), (1, u "java/lang/Object")] 113

def k0c0 : Code := { maxStack := 0, maxLocals := 1, code := object_method_1_code, exceptionTable := #[], attributes := #[] }
def k0m0 : Method := { name := "<init>", desc := "()V", sig := { parameters := [], returnType := none }, accessFlags := 1, code := some k0c0 }
/-- java/lang/Object -/
def k0 : Class := { plain "java/lang/Object" none with
  accessFlags := 33
  interfaces := #[]
  cf := some (fileOf pool0 8 #[] #[{ accessFlags := 1, nameIndex := 5, descriptorIndex := 6, attributes := #[] }] 33 0 #[] #[])
  fields := #[]
  methods := #[k0m0]
  instanceTypes := #[]
  staticTypes := #[]
  resolved := Array.replicate 124 none
  statics := none }

def pool1 : Array CpInfo := pool [(2, .class_ 4), (0, .nameAndType 5 6), (0, u "java/lang/Object"), (0, u "<init>"), (0, u "()V"), (0, .methodref 8 9), (0, .class_ 10), (0, .nameAndType 11 12), (0, u "com/example/sunder/sunder/query/Formulas"), (0, u "constant"), (0, u "(Z)Lcom/example/sunder/sunder/query/Formula;"), (0, .fieldref 8 14), (0, .nameAndType 15 16), (0, u "TRUE"), (0, u "Lcom/example/sunder/sunder/query/Formula;"), (0, .fieldref 8 18), (0, .nameAndType 19 16), (0, u "FALSE"), (0, .methodref 21 22), (0, .class_ 23), (0, .nameAndType 24 25), (0, u "com/example/sunder/sunder/query/Formula"), (0, u "isConstant"), (0, u "()Z"), (0, .fieldref 21 27), (0, .nameAndType 28 29), (0, u "id"), (0, u "I"), (0, .methodref 8 3), (0, .methodref 8 32), (0, .nameAndType 33 34), (0, u "not"), (0, u "(Lcom/example/sunder/sunder/query/Formula;)Lcom/example/sunder/sunder/query/Formula;"), (0, .class_ 36), (0, u "com/example/sunder/sunder/query/Formulas$Decision"), (0, .methodref 35 38), (0, .nameAndType 5 39), (0, u "(Lcom/example/sunder/sunder/query/Formulas$Valuation;Ljava/util/List;)V"), (0, .methodref 35 41), (0, .nameAndType 42 43), (0, u "decide"), (0, u "(Lcom/example/sunder/sunder/query/Formula;)Z"), (0, .class_ 45), (0, u "com/example/sunder/sunder/query/FormulasConstantPinLaw"), (2, u "law"), (0, u "(I)Z")] 8

def k1m0 : Method := { name := "<init>", desc := "()V", sig := { parameters := [], returnType := none }, accessFlags := 1, code := none }
def k1c1 : Code := { maxStack := 4, maxLocals := 7, code := code, exceptionTable := #[], attributes := #[] }
def k1m1 : Method := { name := "law", desc := "(I)Z", sig := { parameters := [.int], returnType := some .boolean }, accessFlags := 9, code := some k1c1 }
/-- com/example/sunder/sunder/query/FormulasConstantPinLaw -/
def k1 : Class := { plain "com/example/sunder/sunder/query/FormulasConstantPinLaw" (some 0) with
  accessFlags := 49
  interfaces := #[]
  cf := some (fileOf pool1 44 #[] #[{ accessFlags := 1, nameIndex := 5, descriptorIndex := 6, attributes := #[] }, { accessFlags := 9, nameIndex := 48, descriptorIndex := 49, attributes := #[] }] 49 2 #[] #[])
  fields := #[]
  methods := #[k1m0, k1m1]
  instanceTypes := #[]
  staticTypes := #[]
  resolved := Array.replicate 58 none
  statics := none }

def pool2 : Array CpInfo := pool [(1, .methodref 2 3), (0, .class_ 4), (0, .nameAndType 5 6), (0, u "java/lang/Object"), (0, u "<init>"), (0, u "()V"), (0, .class_ 8), (0, u "java/util/HashMap"), (0, .methodref 7 3), (0, .fieldref 11 12), (0, .class_ 13), (0, .nameAndType 14 15), (0, u "com/example/sunder/sunder/query/Formulas"), (0, u "interned"), (0, u "Ljava/util/Map;"), (0, .fieldref 11 17), (0, .nameAndType 18 19), (0, u "TRUE"), (0, u "Lcom/example/sunder/sunder/query/Formula;"), (0, .fieldref 11 21), (0, .nameAndType 22 19), (0, u "FALSE"), (1, .class_ 26), (1, u "com/example/sunder/sunder/query/Formula$Kind"), (1, u "Lcom/example/sunder/sunder/query/Formula$Kind;"), (13, .fieldref 43 44), (0, .class_ 45), (0, .nameAndType 46 47), (0, u "com/example/sunder/sunder/query/Formulas$1"), (0, u "$SwitchMap$com$example$sunder$sunder$query$Formula$Kind"), (0, u "[I"), (0, .fieldref 49 50), (0, .class_ 51), (0, .nameAndType 52 28), (0, u "com/example/sunder/sunder/query/Formula"), (0, u "kind"), (0, .methodref 24 54), (0, .nameAndType 55 56), (0, u "ordinal"), (0, u "()I"), (96, .class_ 154), (0, u "com/example/sunder/sunder/query/Formulas$Key"), (14, u "constant"), (0, u "(Z)Lcom/example/sunder/sunder/query/Formula;"), (6, u "not"), (0, u "(Lcom/example/sunder/sunder/query/Formula;)Lcom/example/sunder/sunder/query/Formula;"), (13, .class_ 193), (0, u "com/example/sunder/sunder/query/Formulas$Decision"), (0, .class_ 195), (0, u "com/example/sunder/sunder/query/Formulas$Valuation")] 8

def k2c0 : Code := { maxStack := 3, maxLocals := 1, code := prog_19_method_1_code, exceptionTable := #[], attributes := #[] }
def k2m0 : Method := { name := "<init>", desc := "()V", sig := { parameters := [], returnType := none }, accessFlags := 0, code := some k2c0 }
def k2c1 : Code := { maxStack := 1, maxLocals := 1, code := prog_19_method_2_code, exceptionTable := #[], attributes := #[] }
def k2m1 : Method := { name := "constant", desc := "(Z)Lcom/example/sunder/sunder/query/Formula;", sig := { parameters := [.boolean], returnType := some (.object "com/example/sunder/sunder/query/Formula") }, accessFlags := 8, code := some k2c1 }
def k2c2 : Code := { maxStack := 7, maxLocals := 2, code := prog_19_method_5_code, exceptionTable := #[], attributes := #[] }
def k2m2 : Method := { name := "not", desc := "(Lcom/example/sunder/sunder/query/Formula;)Lcom/example/sunder/sunder/query/Formula;", sig := { parameters := [(.object "com/example/sunder/sunder/query/Formula")], returnType := some (.object "com/example/sunder/sunder/query/Formula") }, accessFlags := 0, code := some k2c2 }
/-- com/example/sunder/sunder/query/Formulas -/
def k2 : Class := { plain "com/example/sunder/sunder/query/Formulas" (some 0) with
  accessFlags := 48
  interfaces := #[]
  cf := some (fileOf pool2 11 #[.nestMembers #[43, 192, 194, 153]] #[{ accessFlags := 0, nameIndex := 5, descriptorIndex := 6, attributes := #[] }, { accessFlags := 8, nameIndex := 169, descriptorIndex := 170, attributes := #[] }, { accessFlags := 0, nameIndex := 177, descriptorIndex := 178, attributes := #[] }] 48 2 #[] #[{ accessFlags := 24, nameIndex := 18, descriptorIndex := 19, attributes := #[] }, { accessFlags := 24, nameIndex := 22, descriptorIndex := 19, attributes := #[] }, { accessFlags := 18, nameIndex := 14, descriptorIndex := 15, attributes := #[] }])
  fields := #[{ name := "TRUE", type := (.object "com/example/sunder/sunder/query/Formula"), accessFlags := 24, slot := 0, constantValue := 0 }, { name := "FALSE", type := (.object "com/example/sunder/sunder/query/Formula"), accessFlags := 24, slot := 1, constantValue := 0 }, { name := "interned", type := (.object "java/util/Map"), accessFlags := 18, slot := 0, constantValue := 0 }]
  methods := #[k2m0, k2m1, k2m2]
  instanceTypes := #[(.object "java/util/Map")]
  staticTypes := #[(.object "com/example/sunder/sunder/query/Formula"), (.object "com/example/sunder/sunder/query/Formula")]
  resolved := Array.replicate 204 none
  statics := some 0 }

def pool3 : Array CpInfo := pool [(2, .class_ 4), (1, u "java/lang/Object"), (2, .fieldref 8 9), (0, .class_ 10), (0, .nameAndType 11 12), (0, u "com/example/sunder/sunder/query/Formula"), (0, u "kind"), (0, u "Lcom/example/sunder/sunder/query/Formula$Kind;"), (2, u "id"), (0, u "I"), (2, u "left"), (0, u "Lcom/example/sunder/sunder/query/Formula;"), (2, u "right"), (2, u "variable"), (0, u "Ljava/lang/String;"), (2, u "condition"), (2, u "pieces"), (0, u "Ljava/util/List;"), (0, .fieldref 36 37), (0, .class_ 38), (0, .nameAndType 39 12), (0, u "com/example/sunder/sunder/query/Formula$Kind"), (0, u "TRUE"), (0, .fieldref 36 41), (0, .nameAndType 42 12), (0, u "FALSE"), (6, u "isConstant"), (0, u "()Z"), (4, .class_ 56), (0, u "com/example/sunder/sunder/query/Formula$Piece")] 3

def k3c0 : Code := { maxStack := 2, maxLocals := 1, code := prog_16_method_2_code, exceptionTable := #[], attributes := #[] }
def k3m0 : Method := { name := "isConstant", desc := "()Z", sig := { parameters := [], returnType := some .boolean }, accessFlags := 0, code := some k3c0 }
/-- com/example/sunder/sunder/query/Formula -/
def k3 : Class := { plain "com/example/sunder/sunder/query/Formula" (some 0) with
  accessFlags := 48
  interfaces := #[]
  cf := some (fileOf pool3 8 #[.nestMembers #[55, 36]] #[{ accessFlags := 0, nameIndex := 49, descriptorIndex := 50, attributes := #[] }] 48 2 #[] #[{ accessFlags := 16, nameIndex := 11, descriptorIndex := 12, attributes := #[] }, { accessFlags := 16, nameIndex := 15, descriptorIndex := 16, attributes := #[] }, { accessFlags := 16, nameIndex := 19, descriptorIndex := 20, attributes := #[] }, { accessFlags := 16, nameIndex := 23, descriptorIndex := 20, attributes := #[] }, { accessFlags := 16, nameIndex := 26, descriptorIndex := 27, attributes := #[] }, { accessFlags := 16, nameIndex := 30, descriptorIndex := 16, attributes := #[] }, { accessFlags := 16, nameIndex := 33, descriptorIndex := 34, attributes := #[] }])
  fields := #[{ name := "kind", type := (.object "com/example/sunder/sunder/query/Formula$Kind"), accessFlags := 16, slot := 0, constantValue := 0 }, { name := "id", type := .int, accessFlags := 16, slot := 1, constantValue := 0 }, { name := "left", type := (.object "com/example/sunder/sunder/query/Formula"), accessFlags := 16, slot := 2, constantValue := 0 }, { name := "right", type := (.object "com/example/sunder/sunder/query/Formula"), accessFlags := 16, slot := 3, constantValue := 0 }, { name := "variable", type := (.object "java/lang/String"), accessFlags := 16, slot := 4, constantValue := 0 }, { name := "condition", type := .int, accessFlags := 16, slot := 5, constantValue := 0 }, { name := "pieces", type := (.object "java/util/List"), accessFlags := 16, slot := 6, constantValue := 0 }]
  methods := #[k3m0]
  instanceTypes := #[(.object "com/example/sunder/sunder/query/Formula$Kind"), .int, (.object "com/example/sunder/sunder/query/Formula"), (.object "com/example/sunder/sunder/query/Formula"), (.object "java/lang/String"), .int, (.object "java/util/List")]
  staticTypes := #[]
  resolved := Array.replicate 60 none
  statics := none }

def pool4 : Array CpInfo := pool [(1, .class_ 2), (0, u "java/lang/constant/Constable"), (0, .class_ 4), (0, u "java/lang/Object")] 6

/-- java/lang/constant/Constable -/
def k4 : Class := { plain "java/lang/constant/Constable" (some 0) with
  accessFlags := 1537
  interfaces := #[]
  cf := some (fileOf pool4 1 #[] #[] 1537 3 #[] #[])
  fields := #[]
  methods := #[]
  instanceTypes := #[]
  staticTypes := #[]
  resolved := Array.replicate 11 none
  statics := none }

def pool5 : Array CpInfo := pool [(1, .class_ 2), (0, u "java/lang/Comparable"), (0, .class_ 4), (0, u "java/lang/Object")] 7

/-- java/lang/Comparable -/
def k5 : Class := { plain "java/lang/Comparable" (some 0) with
  accessFlags := 1537
  interfaces := #[]
  cf := some (fileOf pool5 1 #[] #[] 1537 3 #[] #[])
  fields := #[]
  methods := #[]
  instanceTypes := #[]
  staticTypes := #[]
  resolved := Array.replicate 12 none
  statics := none }

def pool6 : Array CpInfo := pool [(1, .class_ 2), (0, u "java/io/Serializable"), (0, .class_ 4), (0, u "java/lang/Object")] 2

/-- java/io/Serializable -/
def k6 : Class := { plain "java/io/Serializable" (some 0) with
  accessFlags := 1537
  interfaces := #[]
  cf := some (fileOf pool6 1 #[] #[] 1537 3 #[] #[])
  fields := #[]
  methods := #[]
  instanceTypes := #[]
  staticTypes := #[]
  resolved := Array.replicate 7 none
  statics := none }

def pool7 : Array CpInfo := pool [(2, .class_ 4), (1, u "java/lang/Enum"), (0, u "name"), (0, u "Ljava/lang/String;"), (0, .fieldref 2 8), (0, .nameAndType 9 10), (0, u "ordinal"), (0, u "I"), (1, .class_ 14), (1, u "java/lang/Object"), (4, u "hash"), (86, .class_ 108), (1, u "java/lang/Enum$EnumDesc"), (2, .class_ 112), (0, u "java/lang/constant/Constable"), (0, .class_ 114), (0, u "java/lang/Comparable"), (0, .class_ 116), (0, u "java/io/Serializable"), (9, u "()I")] 77

def k7c0 : Code := { maxStack := 1, maxLocals := 1, code := jdk_37_method_2_code, exceptionTable := #[], attributes := #[] }
def k7m0 : Method := { name := "ordinal", desc := "()I", sig := { parameters := [], returnType := some .int }, accessFlags := 17, code := some k7c0 }
/-- java/lang/Enum -/
def k7 : Class := { plain "java/lang/Enum" (some 0) with
  accessFlags := 1057
  interfaces := #[4, 5, 6]
  cf := some (fileOf pool7 2 #[.nestMembers #[106]] #[{ accessFlags := 17, nameIndex := 9, descriptorIndex := 126, attributes := #[] }] 1057 12 #[111, 113, 115] #[{ accessFlags := 18, nameIndex := 5, descriptorIndex := 6, attributes := #[] }, { accessFlags := 18, nameIndex := 9, descriptorIndex := 10, attributes := #[] }, { accessFlags := 2, nameIndex := 19, descriptorIndex := 10, attributes := #[] }])
  fields := #[{ name := "name", type := (.object "java/lang/String"), accessFlags := 18, slot := 0, constantValue := 0 }, { name := "ordinal", type := .int, accessFlags := 18, slot := 1, constantValue := 0 }, { name := "hash", type := .int, accessFlags := 2, slot := 2, constantValue := 0 }]
  methods := #[k7m0]
  instanceTypes := #[(.object "java/lang/String"), .int, .int]
  staticTypes := #[]
  resolved := Array.replicate 204 none
  statics := none }

def pool8 : Array CpInfo := pool [(1, .class_ 2), (0, u "com/example/sunder/sunder/query/Formula$Kind"), (2, u "TRUE"), (0, u "Lcom/example/sunder/sunder/query/Formula$Kind;"), (2, u "FALSE"), (2, u "VARIABLE"), (2, u "NOT"), (2, u "AND"), (2, u "OR"), (2, u "COMPARISON"), (2, u "$VALUES"), (0, u "[Lcom/example/sunder/sunder/query/Formula$Kind;"), (6, .class_ 37), (1, u "java/lang/Enum"), (30, .class_ 69), (0, u "com/example/sunder/sunder/query/Formula")] 2

/-- com/example/sunder/sunder/query/Formula$Kind -/
def k8 : Class := { plain "com/example/sunder/sunder/query/Formula$Kind" (some 7) with
  accessFlags := 16432
  interfaces := #[]
  cf := some (fileOf pool8 1 #[.nestHost 68] #[] 16432 35 #[] #[{ accessFlags := 16409, nameIndex := 5, descriptorIndex := 6, attributes := #[] }, { accessFlags := 16409, nameIndex := 9, descriptorIndex := 6, attributes := #[] }, { accessFlags := 16409, nameIndex := 12, descriptorIndex := 6, attributes := #[] }, { accessFlags := 16409, nameIndex := 15, descriptorIndex := 6, attributes := #[] }, { accessFlags := 16409, nameIndex := 18, descriptorIndex := 6, attributes := #[] }, { accessFlags := 16409, nameIndex := 21, descriptorIndex := 6, attributes := #[] }, { accessFlags := 16409, nameIndex := 24, descriptorIndex := 6, attributes := #[] }, { accessFlags := 4122, nameIndex := 27, descriptorIndex := 28, attributes := #[] }])
  fields := #[{ name := "TRUE", type := (.object "com/example/sunder/sunder/query/Formula$Kind"), accessFlags := 16409, slot := 0, constantValue := 0 }, { name := "FALSE", type := (.object "com/example/sunder/sunder/query/Formula$Kind"), accessFlags := 16409, slot := 1, constantValue := 0 }, { name := "VARIABLE", type := (.object "com/example/sunder/sunder/query/Formula$Kind"), accessFlags := 16409, slot := 2, constantValue := 0 }, { name := "NOT", type := (.object "com/example/sunder/sunder/query/Formula$Kind"), accessFlags := 16409, slot := 3, constantValue := 0 }, { name := "AND", type := (.object "com/example/sunder/sunder/query/Formula$Kind"), accessFlags := 16409, slot := 4, constantValue := 0 }, { name := "OR", type := (.object "com/example/sunder/sunder/query/Formula$Kind"), accessFlags := 16409, slot := 5, constantValue := 0 }, { name := "COMPARISON", type := (.object "com/example/sunder/sunder/query/Formula$Kind"), accessFlags := 16409, slot := 6, constantValue := 0 }, { name := "$VALUES", type := (.array (.object "com/example/sunder/sunder/query/Formula$Kind")), accessFlags := 4122, slot := 7, constantValue := 0 }]
  methods := #[]
  instanceTypes := #[(.object "java/lang/String"), .int, .int]
  staticTypes := #[(.object "com/example/sunder/sunder/query/Formula$Kind"), (.object "com/example/sunder/sunder/query/Formula$Kind"), (.object "com/example/sunder/sunder/query/Formula$Kind"), (.object "com/example/sunder/sunder/query/Formula$Kind"), (.object "com/example/sunder/sunder/query/Formula$Kind"), (.object "com/example/sunder/sunder/query/Formula$Kind"), (.object "com/example/sunder/sunder/query/Formula$Kind"), (.array (.object "com/example/sunder/sunder/query/Formula$Kind"))]
  resolved := Array.replicate 72 none
  statics := some 1 }

def pool9 : Array CpInfo := pool [(2, .class_ 4), (1, u "java/util/Map"), (31, .class_ 37), (0, u "java/util/Map$Entry"), (55, .class_ 94), (0, u "java/lang/Object")] 168

/-- java/util/Map -/
def k9 : Class := { plain "java/util/Map" (some 0) with
  accessFlags := 1537
  interfaces := #[]
  cf := some (fileOf pool9 2 #[.nestMembers #[36]] #[] 1537 93 #[] #[])
  fields := #[]
  methods := #[]
  instanceTypes := #[]
  staticTypes := #[]
  resolved := Array.replicate 263 none
  statics := none }

def pool10 : Array CpInfo := pool [(1, .methodref 2 3), (0, .class_ 4), (0, .nameAndType 5 6), (0, u "java/lang/Object"), (0, u "<init>"), (0, u "()V"), (1, .class_ 10), (1, u "java/util/AbstractMap"), (42, .class_ 54), (0, u "java/util/Map"), (9, u "keySet"), (0, u "Ljava/util/Set;"), (0, .class_ 67), (0, u "java/util/AbstractMap$1"), (5, u "values"), (0, u "Ljava/util/Collection;"), (0, .class_ 76), (0, u "java/util/AbstractMap$2"), (104, .class_ 182), (0, u "java/util/AbstractMap$ViewCollection"), (0, .class_ 184), (0, u "java/util/AbstractMap$SimpleImmutableEntry"), (0, .class_ 186), (0, u "java/util/AbstractMap$SimpleEntry"), (0, .class_ 188), (0, u "java/util/AbstractMap$2$1"), (0, .class_ 190), (0, u "java/util/AbstractMap$1$1")] 5

def k10c0 : Code := { maxStack := 1, maxLocals := 1, code := jdk_71_method_1_code, exceptionTable := #[], attributes := #[] }
def k10m0 : Method := { name := "<init>", desc := "()V", sig := { parameters := [], returnType := none }, accessFlags := 4, code := some k10c0 }
/-- java/util/AbstractMap -/
def k10 : Class := { plain "java/util/AbstractMap" (some 0) with
  accessFlags := 1057
  interfaces := #[9]
  cf := some (fileOf pool10 8 #[.nestMembers #[181, 183, 185, 75, 187, 66, 189]] #[{ accessFlags := 4, nameIndex := 5, descriptorIndex := 6, attributes := #[] }] 1057 2 #[53] #[{ accessFlags := 128, nameIndex := 64, descriptorIndex := 65, attributes := #[] }, { accessFlags := 128, nameIndex := 73, descriptorIndex := 74, attributes := #[] }])
  fields := #[{ name := "keySet", type := (.object "java/util/Set"), accessFlags := 128, slot := 0, constantValue := 0 }, { name := "values", type := (.object "java/util/Collection"), accessFlags := 128, slot := 1, constantValue := 0 }]
  methods := #[k10m0]
  instanceTypes := #[(.object "java/util/Set"), (.object "java/util/Collection")]
  staticTypes := #[]
  resolved := Array.replicate 196 none
  statics := none }

def pool11 : Array CpInfo := pool [(1, .class_ 2), (0, u "java/lang/Cloneable"), (0, .class_ 4), (0, u "java/lang/Object")] 2

/-- java/lang/Cloneable -/
def k11 : Class := { plain "java/lang/Cloneable" (some 0) with
  accessFlags := 1537
  interfaces := #[]
  cf := some (fileOf pool11 1 #[] #[] 1537 3 #[] #[])
  fields := #[]
  methods := #[]
  instanceTypes := #[]
  staticTypes := #[]
  resolved := Array.replicate 7 none
  statics := none }

def pool12 : Array CpInfo := pool [(40, .class_ 41), (0, u "java/util/HashMap"), (1, .methodref 44 45), (0, .class_ 46), (0, .nameAndType 47 48), (0, u "java/util/AbstractMap"), (0, u "<init>"), (0, u "()V"), (32, .fieldref 40 82), (0, .nameAndType 83 84), (0, u "loadFactor"), (0, u "F"), (5, u "threshold"), (0, u "I"), (0, .float 1061158912), (8, .class_ 103), (1, u "java/util/Map"), (0, u "size"), (2, u "table"), (0, u "[Ljava/util/HashMap$Node;"), (14, u "entrySet"), (39, .class_ 165), (1, u "java/util/HashMap$Node"), (14, .class_ 181), (0, u "java/util/HashMap$TreeNode"), (22, u "modCount"), (37, u "Ljava/util/Set;"), (0, .class_ 244), (0, u "java/util/HashMap$KeySet"), (18, .class_ 264), (0, u "java/util/HashMap$Values"), (3, .class_ 269), (0, u "java/util/HashMap$EntrySet"), (76, .class_ 348), (1, u "java/util/HashMap$UnsafeHolder"), (43, .class_ 393), (0, u "java/lang/Cloneable"), (0, .class_ 395), (0, u "java/io/Serializable"), (0, u "serialVersionUID"), (0, u "J"), (3, u "DEFAULT_INITIAL_CAPACITY"), (1, u "MAXIMUM_CAPACITY"), (0, u "DEFAULT_LOAD_FACTOR"), (0, u "TREEIFY_THRESHOLD"), (1, u "UNTREEIFY_THRESHOLD"), (1, u "MIN_TREEIFY_CAPACITY"), (186, .class_ 597), (0, u "java/util/HashMap$EntrySpliterator"), (0, .class_ 599), (0, u "java/util/HashMap$ValueSpliterator"), (0, .class_ 601), (0, u "java/util/HashMap$KeySpliterator"), (0, .class_ 603), (0, u "java/util/HashMap$HashMapSpliterator"), (0, .class_ 605), (0, u "java/util/HashMap$EntryIterator"), (0, .class_ 607), (0, u "java/util/HashMap$ValueIterator"), (0, .class_ 609), (0, u "java/util/HashMap$KeyIterator"), (0, .class_ 611), (0, u "java/util/HashMap$HashIterator")] 17

def k12c0 : Code := { maxStack := 2, maxLocals := 1, code := jdk_69_method_7_code, exceptionTable := #[], attributes := #[] }
def k12m0 : Method := { name := "<init>", desc := "()V", sig := { parameters := [], returnType := none }, accessFlags := 1, code := some k12c0 }
/-- java/util/HashMap -/
def k12 : Class := { plain "java/util/HashMap" (some 10) with
  accessFlags := 33
  interfaces := #[9, 11, 6]
  cf := some (fileOf pool12 40 #[.nestMembers #[180, 596, 598, 600, 602, 604, 606, 608, 610, 346, 268, 263, 243, 163]] #[{ accessFlags := 1, nameIndex := 47, descriptorIndex := 48, attributes := #[] }] 33 44 #[101, 392, 394] #[{ accessFlags := 26, nameIndex := 396, descriptorIndex := 397, attributes := #[] }, { accessFlags := 24, nameIndex := 401, descriptorIndex := 91, attributes := #[] }, { accessFlags := 24, nameIndex := 403, descriptorIndex := 91, attributes := #[] }, { accessFlags := 24, nameIndex := 404, descriptorIndex := 84, attributes := #[] }, { accessFlags := 24, nameIndex := 405, descriptorIndex := 91, attributes := #[] }, { accessFlags := 24, nameIndex := 407, descriptorIndex := 91, attributes := #[] }, { accessFlags := 24, nameIndex := 409, descriptorIndex := 91, attributes := #[] }, { accessFlags := 128, nameIndex := 107, descriptorIndex := 108, attributes := #[] }, { accessFlags := 128, nameIndex := 123, descriptorIndex := 242, attributes := #[] }, { accessFlags := 128, nameIndex := 104, descriptorIndex := 91, attributes := #[] }, { accessFlags := 128, nameIndex := 204, descriptorIndex := 91, attributes := #[] }, { accessFlags := 0, nameIndex := 90, descriptorIndex := 91, attributes := #[] }, { accessFlags := 16, nameIndex := 83, descriptorIndex := 84, attributes := #[] }])
  fields := #[{ name := "serialVersionUID", type := .long, accessFlags := 26, slot := 0, constantValue := 0 }, { name := "DEFAULT_INITIAL_CAPACITY", type := .int, accessFlags := 24, slot := 1, constantValue := 0 }, { name := "MAXIMUM_CAPACITY", type := .int, accessFlags := 24, slot := 2, constantValue := 0 }, { name := "DEFAULT_LOAD_FACTOR", type := .float, accessFlags := 24, slot := 3, constantValue := 0 }, { name := "TREEIFY_THRESHOLD", type := .int, accessFlags := 24, slot := 4, constantValue := 0 }, { name := "UNTREEIFY_THRESHOLD", type := .int, accessFlags := 24, slot := 5, constantValue := 0 }, { name := "MIN_TREEIFY_CAPACITY", type := .int, accessFlags := 24, slot := 6, constantValue := 0 }, { name := "table", type := (.array (.object "java/util/HashMap$Node")), accessFlags := 128, slot := 2, constantValue := 0 }, { name := "entrySet", type := (.object "java/util/Set"), accessFlags := 128, slot := 3, constantValue := 0 }, { name := "size", type := .int, accessFlags := 128, slot := 4, constantValue := 0 }, { name := "modCount", type := .int, accessFlags := 128, slot := 5, constantValue := 0 }, { name := "threshold", type := .int, accessFlags := 0, slot := 6, constantValue := 0 }, { name := "loadFactor", type := .float, accessFlags := 16, slot := 7, constantValue := 0 }]
  methods := #[k12m0]
  instanceTypes := #[(.object "java/util/Set"), (.object "java/util/Collection"), (.array (.object "java/util/HashMap$Node")), (.object "java/util/Set"), .int, .int, .int, .float]
  staticTypes := #[.long, .int, .int, .float, .int, .int, .int]
  resolved := Array.replicate 629 none
  statics := none }

def pool13 : Array CpInfo := pool [(8, .class_ 10), (1, u "com/example/sunder/sunder/query/Formulas$1"), (0, u "$SwitchMap$com$example$sunder$sunder$query$Formula$Kind"), (0, u "[I"), (28, .class_ 42), (0, u "java/lang/Object"), (8, .class_ 52), (0, u "com/example/sunder/sunder/query/Formulas")] 5

/-- com/example/sunder/sunder/query/Formulas$1 -/
def k13 : Class := { plain "com/example/sunder/sunder/query/Formulas$1" (some 0) with
  accessFlags := 4128
  interfaces := #[]
  cf := some (fileOf pool13 8 #[.nestHost 51] #[] 4128 41 #[] #[{ accessFlags := 4120, nameIndex := 11, descriptorIndex := 12, attributes := #[] }])
  fields := #[{ name := "$SwitchMap$com$example$sunder$sunder$query$Formula$Kind", type := (.array .int), accessFlags := 4120, slot := 0, constantValue := 0 }]
  methods := #[]
  instanceTypes := #[]
  staticTypes := #[(.array .int)]
  resolved := Array.replicate 58 none
  statics := some 2 }

def pool14 : Array CpInfo := pool [(1, .methodref 2 3), (0, .class_ 4), (0, .nameAndType 5 6), (0, u "java/lang/Object"), (0, u "<init>"), (0, u "()V"), (0, .class_ 8), (0, u "java/util/HashMap"), (0, .methodref 7 3), (0, .fieldref 11 12), (0, .class_ 13), (0, .nameAndType 14 15), (0, u "com/example/sunder/sunder/query/Formulas$Decision"), (0, u "decided"), (0, u "Ljava/util/Map;"), (0, .fieldref 11 17), (0, .nameAndType 18 19), (0, u "valuation"), (0, u "Lcom/example/sunder/sunder/query/Formulas$Valuation;"), (0, .fieldref 11 21), (0, .nameAndType 22 23), (0, u "conditions"), (0, u "Ljava/util/List;"), (0, .methodref 25 26), (0, .class_ 27), (0, .nameAndType 28 29), (0, u "com/example/sunder/sunder/query/Formula"), (0, u "isConstant"), (0, u "()Z"), (0, .fieldref 31 32), (0, .class_ 33), (0, .nameAndType 34 35), (0, u "com/example/sunder/sunder/query/Formulas"), (0, u "TRUE"), (0, u "Lcom/example/sunder/sunder/query/Formula;"), (83, u "(Lcom/example/sunder/sunder/query/Formula;)Z"), (75, u "(Lcom/example/sunder/sunder/query/Formulas$Valuation;Ljava/util/List;)V"), (3, u "decide")] 15

def k14c0 : Code := { maxStack := 3, maxLocals := 3, code := prog_21_method_1_code, exceptionTable := #[], attributes := #[] }
def k14m0 : Method := { name := "<init>", desc := "(Lcom/example/sunder/sunder/query/Formulas$Valuation;Ljava/util/List;)V", sig := { parameters := [(.object "com/example/sunder/sunder/query/Formulas$Valuation"), (.object "java/util/List")], returnType := none }, accessFlags := 0, code := some k14c0 }
def k14c1 : Code := { maxStack := 3, maxLocals := 5, code := prog_21_method_2_code, exceptionTable := #[], attributes := #[] }
def k14m1 : Method := { name := "decide", desc := "(Lcom/example/sunder/sunder/query/Formula;)Z", sig := { parameters := [(.object "com/example/sunder/sunder/query/Formula")], returnType := some .boolean }, accessFlags := 0, code := some k14c1 }
/-- com/example/sunder/sunder/query/Formulas$Decision -/
def k14 : Class := { plain "com/example/sunder/sunder/query/Formulas$Decision" (some 0) with
  accessFlags := 48
  interfaces := #[]
  cf := some (fileOf pool14 11 #[.nestHost 31] #[{ accessFlags := 0, nameIndex := 5, descriptorIndex := 195, attributes := #[] }, { accessFlags := 0, nameIndex := 199, descriptorIndex := 119, attributes := #[] }] 48 2 #[] #[{ accessFlags := 18, nameIndex := 18, descriptorIndex := 19, attributes := #[] }, { accessFlags := 18, nameIndex := 22, descriptorIndex := 23, attributes := #[] }, { accessFlags := 18, nameIndex := 14, descriptorIndex := 15, attributes := #[] }])
  fields := #[{ name := "valuation", type := (.object "com/example/sunder/sunder/query/Formulas$Valuation"), accessFlags := 18, slot := 0, constantValue := 0 }, { name := "conditions", type := (.object "java/util/List"), accessFlags := 18, slot := 1, constantValue := 0 }, { name := "decided", type := (.object "java/util/Map"), accessFlags := 18, slot := 2, constantValue := 0 }]
  methods := #[k14m0, k14m1]
  instanceTypes := #[(.object "com/example/sunder/sunder/query/Formulas$Valuation"), (.object "java/util/List"), (.object "java/util/Map")]
  staticTypes := #[]
  resolved := Array.replicate 215 none
  statics := none }

/-- the primitive byte -/
def k15 : Class := { plain "byte" none with kind := .primitive 'B', accessFlags := 0x411 }
/-- [B -/
def k16 : Class := { plain "[B" (some 0) with kind := .array 15 .byte, interfaces := #[11, 6], accessFlags := 1041 }

/-- the primitive int -/
def k17 : Class := { plain "int" none with kind := .primitive 'I', accessFlags := 0x411 }
/-- [I -/
def k18 : Class := { plain "[I" (some 0) with kind := .array 17 .int, interfaces := #[11, 6], accessFlags := 1041 }

def heap : Heap := #[{ cls := 2, slots := #[.ref 5, .ref 6], vm := .statics 2 },
  { cls := 8, slots := #[.ref 3, .ref 4, .null, .null, .null, .null, .null, .null], vm := .statics 8 },
  { cls := 13, slots := #[.ref 7], vm := .statics 13 },
  { cls := 8, slots := #[.null, .int 0, .int 0], vm := .none },
  { cls := 8, slots := #[.null, .int 1, .int 0], vm := .none },
  { cls := 3, slots := #[.ref 3, .int (-1), .null, .null, .null, .int 0, .null], vm := .none },
  { cls := 3, slots := #[.ref 4, .int (-1), .null, .null, .null, .int 0, .null], vm := .none },
  { cls := 18, slots := #[.int 1, .int 2, .int 4, .int 3, .int 6, .int 7, .int 5], vm := .none }]
def classes : Array Class := #[k0, k1, k2, k3, k4, k5, k6, k7, k8, k9, k10, k11, k12, k13, k14, k15, k16, k17, k18]
def interned : List (Array UInt16 × Addr) := []
def slotsUsed : Nat := 38
def theMethod : MethodId := ⟨1, 1⟩
def args0 : Array Value := #[.int 5]
def aboutOver (below : List Frame) : State where
  vm := { classes := classes, interned := interned.toArray }
  heap := heap
  slotsUsed := slotsUsed
  threads := #[{ frames := .invoking theMethod args0 :: below }]
def below0 : List Frame := [.native { method := ⟨0, 0⟩, args := #[] }]
def about1 : State := aboutOver below0
def p0 : Program := .bare "" "" ""
def e0 : Env := launch0.env 0 0 0
theorem w_frames : about1.frames = Frame.invoking theMethod args0 :: below0 := rfl
set_option maxRecDepth 65536 in
theorem w_args : argsFit about1.vm theMethod args0 = true := by decide +kernel
set_option maxRecDepth 65536 in
theorem w_heap : heapFits about1 = true := by decide +kernel
set_option maxRecDepth 65536 in
theorem w_runnable : about1.curStatus? = some .runnable := by decide +kernel
set_option maxRecDepth 65536 in
theorem w_alone : about1.alone = true := by decide +kernel
set_option maxRecDepth 65536 in
theorem w_named : about1.methodNamed? x = some theMethod := by decide +kernel
set_option maxRecDepth 65536 in
theorem w_hears : about1.hears theMethod below0 = true := by decide +kernel
set_option maxRecDepth 65536 in
theorem w_ripe : about1.ripe theMethod args0 below0 = true := by decide +kernel
theorem w_running : about1.status = .running := rfl
set_option maxRecDepth 65536 in
theorem w_room : about1.hasRoom e0.platform room_1 = true :=
  launch0.hasRoom_least _ room_1 (by decide +kernel) (by decide +kernel) (by decide +kernel) (by decide +kernel) (by decide +kernel) (by decide +kernel)
theorem allAtoms_all (ts : List Jvm.Cond) (a : Array Jvm.Value) (st : Jvm.State) : (allAtoms ts).before a st = ts.all (fun c => c.before a st) := by
  induction ts with
  | nil => rfl
  | cons c t ih =>
    show (Jvm.Cond.and c (allAtoms t)).before a st = _
    rw [Jvm.Cond.before_and, ih, List.all_cons]
def words1 : List Jvm.Cond := Jvm.Cond.code x code maxLocals ret :: tables_1
/-- a 'code' word, met by the world's own term for the bytes: nothing is compared byte by byte -/
theorem code_word {y : MethodName} {bytes : ByteArray} {mx : Nat} {rt : Option FieldType} {a : Array Value} {s : State} {m : MethodId} {meth : Method} {c : Code} (h1 : s.methodNamed? y = some m) (h2 : s.vm.method? m = some meth) (h3 : meth.code = some c) (h4 : c.code = bytes)
    (h5 : (c.maxLocals == mx && c.exceptionTable.isEmpty && decide (c.maxStack ≤ mostOperands) && decide (meth.sig.returnType = rt) && !meth.locks && decide (parseMethodDescriptor y.desc = some meth.sig)) = true) : (Jvm.Cond.code y bytes mx rt).before a s = true := by
  simp only [Bool.and_eq_true, beq_iff_eq, Bool.not_eq_true', decide_eq_true_eq] at h5
  obtain ⟨⟨⟨⟨⟨g1, g2⟩, g3⟩, g4⟩, g5⟩, g6⟩ := h5
  simp [Cond.before, Cond.holds, Cond.value, h1, h2, h3, h4, g1, g2, g3, g4, g5, g6]
def isCode : Jvm.Cond → Bool
  | .code _ _ _ _ => true
  | _ => false
theorem all_split {L : List Jvm.Cond} {P : Jvm.Cond → Bool} (h1 : L.all (fun c => isCode c || P c) = true) (h2 : ∀ c ∈ L.filter isCode, P c = true) : L.all P = true := by
  refine List.all_eq_true.mpr fun c hc => ?_
  have h := List.all_eq_true.mp h1 c hc
  rcases Bool.eq_false_or_eq_true (isCode c) with hi | hi
  · exact h2 c (List.mem_filter.mpr ⟨hc, hi⟩)
  · simpa [hi] using h
set_option maxRecDepth 65536 in
theorem w_c0 : (Jvm.Cond.code x code maxLocals ret).before args0 about1 = true := code_word (m := ⟨1, 1⟩) (meth := k1m1) (c := k1c1) (by decide +kernel) rfl rfl rfl (by decide +kernel)
set_option maxRecDepth 65536 in
theorem w_c1 : (Jvm.Cond.code ({ cls := "com/example/sunder/sunder/query/Formulas", name := "constant", desc := "(Z)Lcom/example/sunder/sunder/query/Formula;" } : Jvm.MethodName) prog_19_method_2_code (1 : Nat) (Option.some (Jvm.ClassFile.FieldType.object "com/example/sunder/sunder/query/Formula"))).before args0 about1 = true := code_word (m := ⟨2, 1⟩) (meth := k2m1) (c := k2c1) (by decide +kernel) rfl rfl rfl (by decide +kernel)
set_option maxRecDepth 65536 in
theorem w_c2 : (Jvm.Cond.code ({ cls := "com/example/sunder/sunder/query/Formula", name := "isConstant", desc := "()Z" } : Jvm.MethodName) prog_16_method_2_code (1 : Nat) (Option.some Jvm.ClassFile.FieldType.boolean)).before args0 about1 = true := code_word (m := ⟨3, 0⟩) (meth := k3m0) (c := k3c0) (by decide +kernel) rfl rfl rfl (by decide +kernel)
set_option maxRecDepth 65536 in
theorem w_c3 : (Jvm.Cond.code ({ cls := "com/example/sunder/sunder/query/Formulas", name := "<init>", desc := "()V" } : Jvm.MethodName) prog_19_method_1_code (1 : Nat) (Option.none : Option Jvm.ClassFile.FieldType)).before args0 about1 = true := code_word (m := ⟨2, 0⟩) (meth := k2m0) (c := k2c0) (by decide +kernel) rfl rfl rfl (by decide +kernel)
set_option maxRecDepth 65536 in
theorem w_c4 : (Jvm.Cond.code ({ cls := "java/lang/Object", name := "<init>", desc := "()V" } : Jvm.MethodName) object_method_1_code (1 : Nat) (Option.none : Option Jvm.ClassFile.FieldType)).before args0 about1 = true := code_word (m := ⟨0, 0⟩) (meth := k0m0) (c := k0c0) (by decide +kernel) rfl rfl rfl (by decide +kernel)
set_option maxRecDepth 65536 in
theorem w_c5 : (Jvm.Cond.code ({ cls := "java/util/HashMap", name := "<init>", desc := "()V" } : Jvm.MethodName) jdk_69_method_7_code (1 : Nat) (Option.none : Option Jvm.ClassFile.FieldType)).before args0 about1 = true := code_word (m := ⟨12, 0⟩) (meth := k12m0) (c := k12c0) (by decide +kernel) rfl rfl rfl (by decide +kernel)
set_option maxRecDepth 65536 in
theorem w_c6 : (Jvm.Cond.code ({ cls := "java/util/AbstractMap", name := "<init>", desc := "()V" } : Jvm.MethodName) jdk_71_method_1_code (1 : Nat) (Option.none : Option Jvm.ClassFile.FieldType)).before args0 about1 = true := code_word (m := ⟨10, 0⟩) (meth := k10m0) (c := k10c0) (by decide +kernel) rfl rfl rfl (by decide +kernel)
set_option maxRecDepth 65536 in
theorem w_c7 : (Jvm.Cond.code ({ cls := "com/example/sunder/sunder/query/Formulas", name := "not", desc := "(Lcom/example/sunder/sunder/query/Formula;)Lcom/example/sunder/sunder/query/Formula;" } : Jvm.MethodName) prog_19_method_5_code (2 : Nat) (Option.some (Jvm.ClassFile.FieldType.object "com/example/sunder/sunder/query/Formula"))).before args0 about1 = true := code_word (m := ⟨2, 2⟩) (meth := k2m2) (c := k2c2) (by decide +kernel) rfl rfl rfl (by decide +kernel)
set_option maxRecDepth 65536 in
theorem w_c8 : (Jvm.Cond.code ({ cls := "java/lang/Enum", name := "ordinal", desc := "()I" } : Jvm.MethodName) jdk_37_method_2_code (1 : Nat) (Option.some Jvm.ClassFile.FieldType.int)).before args0 about1 = true := code_word (m := ⟨7, 0⟩) (meth := k7m0) (c := k7c0) (by decide +kernel) rfl rfl rfl (by decide +kernel)
set_option maxRecDepth 65536 in
theorem w_c9 : (Jvm.Cond.code ({ cls := "com/example/sunder/sunder/query/Formulas$Decision", name := "<init>", desc := "(Lcom/example/sunder/sunder/query/Formulas$Valuation;Ljava/util/List;)V" } : Jvm.MethodName) prog_21_method_1_code (3 : Nat) (Option.none : Option Jvm.ClassFile.FieldType)).before args0 about1 = true := code_word (m := ⟨14, 0⟩) (meth := k14m0) (c := k14c0) (by decide +kernel) rfl rfl rfl (by decide +kernel)
set_option maxRecDepth 65536 in
theorem w_c10 : (Jvm.Cond.code ({ cls := "com/example/sunder/sunder/query/Formulas$Decision", name := "decide", desc := "(Lcom/example/sunder/sunder/query/Formula;)Z" } : Jvm.MethodName) prog_21_method_2_code (5 : Nat) (Option.some Jvm.ClassFile.FieldType.boolean)).before args0 about1 = true := code_word (m := ⟨14, 1⟩) (meth := k14m1) (c := k14c1) (by decide +kernel) rfl rfl rfl (by decide +kernel)
def codes1 : List Jvm.Cond := [Jvm.Cond.code x code maxLocals ret, Jvm.Cond.code ({ cls := "com/example/sunder/sunder/query/Formulas", name := "constant", desc := "(Z)Lcom/example/sunder/sunder/query/Formula;" } : Jvm.MethodName) prog_19_method_2_code (1 : Nat) (Option.some (Jvm.ClassFile.FieldType.object "com/example/sunder/sunder/query/Formula")), Jvm.Cond.code ({ cls := "com/example/sunder/sunder/query/Formula", name := "isConstant", desc := "()Z" } : Jvm.MethodName) prog_16_method_2_code (1 : Nat) (Option.some Jvm.ClassFile.FieldType.boolean), Jvm.Cond.code ({ cls := "com/example/sunder/sunder/query/Formulas", name := "<init>", desc := "()V" } : Jvm.MethodName) prog_19_method_1_code (1 : Nat) (Option.none : Option Jvm.ClassFile.FieldType), Jvm.Cond.code ({ cls := "java/lang/Object", name := "<init>", desc := "()V" } : Jvm.MethodName) object_method_1_code (1 : Nat) (Option.none : Option Jvm.ClassFile.FieldType), Jvm.Cond.code ({ cls := "java/util/HashMap", name := "<init>", desc := "()V" } : Jvm.MethodName) jdk_69_method_7_code (1 : Nat) (Option.none : Option Jvm.ClassFile.FieldType), Jvm.Cond.code ({ cls := "java/util/AbstractMap", name := "<init>", desc := "()V" } : Jvm.MethodName) jdk_71_method_1_code (1 : Nat) (Option.none : Option Jvm.ClassFile.FieldType), Jvm.Cond.code ({ cls := "com/example/sunder/sunder/query/Formulas", name := "not", desc := "(Lcom/example/sunder/sunder/query/Formula;)Lcom/example/sunder/sunder/query/Formula;" } : Jvm.MethodName) prog_19_method_5_code (2 : Nat) (Option.some (Jvm.ClassFile.FieldType.object "com/example/sunder/sunder/query/Formula")), Jvm.Cond.code ({ cls := "java/lang/Enum", name := "ordinal", desc := "()I" } : Jvm.MethodName) jdk_37_method_2_code (1 : Nat) (Option.some Jvm.ClassFile.FieldType.int), Jvm.Cond.code ({ cls := "com/example/sunder/sunder/query/Formulas$Decision", name := "<init>", desc := "(Lcom/example/sunder/sunder/query/Formulas$Valuation;Ljava/util/List;)V" } : Jvm.MethodName) prog_21_method_1_code (3 : Nat) (Option.none : Option Jvm.ClassFile.FieldType), Jvm.Cond.code ({ cls := "com/example/sunder/sunder/query/Formulas$Decision", name := "decide", desc := "(Lcom/example/sunder/sunder/query/Formula;)Z" } : Jvm.MethodName) prog_21_method_2_code (5 : Nat) (Option.some Jvm.ClassFile.FieldType.boolean)]
set_option maxRecDepth 65536 in
theorem codes_eq : words1.filter isCode = codes1 := rfl
theorem w_codes : ∀ c ∈ words1.filter isCode, c.before args0 about1 = true := by
  rw [codes_eq]
  intro c hc
  simp only [codes1, List.mem_cons, List.not_mem_nil, or_false] at hc
  rcases hc with rfl | rfl | rfl | rfl | rfl | rfl | rfl | rfl | rfl | rfl | rfl
  · exact w_c0
  · exact w_c1
  · exact w_c2
  · exact w_c3
  · exact w_c4
  · exact w_c5
  · exact w_c6
  · exact w_c7
  · exact w_c8
  · exact w_c9
  · exact w_c10
set_option maxRecDepth 65536 in
theorem w_t1 : (words1.take 24).all (fun c => isCode c || c.before args0 about1) = true := by decide +kernel
set_option maxRecDepth 65536 in
theorem w_t2 : ((words1.drop 24).take 24).all (fun c => isCode c || c.before args0 about1) = true := by decide +kernel
set_option maxRecDepth 65536 in
theorem w_t3 : (((words1.drop 24).drop 24).take 24).all (fun c => isCode c || c.before args0 about1) = true := by decide +kernel
set_option maxRecDepth 65536 in
theorem w_t4 : (((words1.drop 24).drop 24).drop 24).all (fun c => isCode c || c.before args0 about1) = true := by decide +kernel
theorem w_tables : (allAtoms (Jvm.Cond.code x code maxLocals ret :: tables_1)).before args0 about1 = true := by
  rw [allAtoms_all]
  show words1.all (fun c => c.before args0 about1) = true
  refine all_split ?_ w_codes
  rw [← List.take_append_drop 24 words1, List.all_append, w_t1, ← List.take_append_drop 24 (words1.drop 24), List.all_append, w_t2, ← List.take_append_drop 24 ((words1.drop 24).drop 24), List.all_append, w_t3, w_t4]
  rfl
set_option maxRecDepth 65536 in
theorem w_case : (Jvm.Cond.and given_1 narrow_1).before args0 about1 = true := by decide +kernel
theorem w_applies : (headSpec (Jvm.Cond.code x code maxLocals ret :: tables_1) room_1).applies x e0.platform about1 = true :=
  (Spec.applies_iff w_frames).mpr ⟨w_running, w_runnable, w_alone, w_named, w_hears, w_ripe, w_room, w_tables⟩
theorem atStart : AtStart classFile x code maxLocals ret World_1 tables_1 room_1 Calls_1 rest_1 Pre_1 launch0 p0 e0 about1 theMethod args0 below0 :=
  ⟨lists_1, trivial, launch0.admits_env _ _ _, launch0.least_env, fairChoices_fair.cas, fairChoices_fair.clock, w_frames, w_args, w_heap, w_applies, trivial, trivial, w_case⟩
end start1
theorem witness_1 : WitnessClaimed_1 := ⟨start1.p0, start1.e0, start1.about1, start1.theMethod, start1.args0, start1.below0, start1.atStart⟩
end Jvm.Pilot.@@N@@
