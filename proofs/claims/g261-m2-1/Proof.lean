import JvmDerived
import JvmDerived.Pilot.@@N@@Statement
import JvmDerived.Pilot.@@N@@Code
set_option linter.unusedVariables false
set_option linter.unusedSimpArgs false
namespace Jvm.Pilot.@@N@@
open Jvm Jvm.ClassFile Sem Op Lib Jvm.Free Jvm.Stand Jvm.LawKit Jvm.RoadKit Bundle Jvm.Pilot.@@N@@.Jvm.D
/-! own kit: a walk that goes forward: Go says what is still owed from the state S -/
section OwnGo
variable {p : Program} {l : Launch} {e : Env} {R : Room} {s : State} {m : MethodId} {args : Array Value} {below : List Frame} {meth : Method} {c : Code} {T : State} {locs : List Loc} {cells slots : Nat} {Z : State} {a0 : Array Value} {h : Heap} {G : Outcome → State → Prop} {S S' : State}
def Go (p : Program) (e : Env) (below : List Frame) (G : Outcome → State → Prop) (S : State) : Prop :=
  ∃ s₂ o, Steps p.tables e below S s₂ ∧ s₂.status = .running ∧ Ended s₂ below o ∧ G o s₂
theorem Go.st (h : ∀ t, Steps p.tables e below S' t → Steps p.tables e below S t) (k : Go p e below G S') : Go p e below G S := by
  obtain ⟨s₂, o, h1, h2⟩ := k
  exact ⟨s₂, o, h _ h1, h2⟩
theorem Go.tr (h : Steps p.tables e below S S') (k : Go p e below G S') : Go p e below G S := by
  obtain ⟨s₂, o, h1, h2⟩ := k
  exact ⟨s₂, o, h.trans h1, h2⟩
theorem Go.cast {g g' : JFrame} (q : g = g') (k : Go p e below G (T.setTop g')) : Go p e below G (T.setTop g) := q ▸ k
/-- what a body leaves: Q of the value, the heap and the places written -/
def Left (s : State) (K N : Nat) (Q : Option Value → Heap → List Loc → Prop) : Outcome → State → Prop :=
  fun o t => ∃ v L, o = .returned v ∧ Q v t.heap L ∧ FrameEnd s o t L K N
/-- a body's contract -/
def Pays (l : Launch) (y : MethodName) (bytes : ByteArray) (maxL : Nat) (ret : Option FieldType) (rm : Room) (Z : State) (as' : Array Value) (h0 : Heap) (Q : Option Value → Heap → List Loc → Prop) : Prop :=
  ∀ ws, MetFree l y (head1 (Cond.code y bytes maxL ret :: ws) rm) (fun a U => a = as' ∧ Z.Warmed39 U.vm ∧ U.heap = h0) (fun _ _ _ _ _ => True) (fun _ U o U' => ∃ v L, o = .returned v ∧ Q v U'.heap L ∧ FrameEnd U o U' L rm.cells rm.slots)
theorem Pays.of {y : MethodName} {bytes : ByteArray} {maxL : Nat} {ret : Option FieldType} {rm : Room} {as' : Array Value} {h0 : Heap} {Q : Option Value → Heap → List Loc → Prop} (hx : plainFor y = true)
    (body : ∀ (p : Program) (e : Env) (s : State) (m : MethodId) (below : List Frame) (meth : Method) (c : Code) (T : State), p.tables.exec = Jvm.exec → c.code = bytes → c.maxLocals = maxL → meth.sig.returnType = ret → meth.locks = false → Z.Warmed39 s.vm → s.vm.findClass y.cls = some m.cls → meth.name = y.name →
      T.heap = h0 → Stand p l e rm s m as' below meth c T [] 0 0 → Go p e below (Left s rm.cells rm.slots Q) (T.setTop (entryFrame m as' maxL))) : Pays l y bytes maxL ret rm Z as' h0 Q := by
  intro ws
  refine MetFree.of_bodySF hx hisR ?_
  intro p e s m args below meth c s₁ Bd hml0 hP hK
  obtain ⟨rfl, hZ, hh⟩ := hP
  exact body p e s m below meth c s₁ Bd.exec Bd.bytes hml0 Bd.returns Bd.notSynchronized hZ (findClass_of_methodNamed Bd.named) (name_of_methodNamed Bd.named Bd.method).1 (by rw [← hh, Bd.state]; rfl) (Stand.of_body Bd)
theorem Go.out (X : Stand p l e R s m args below meth c T locs cells slots) {v : Option Value} {K N : Nat} {Q : Option Value → Heap → List Loc → Prop} (hlocks : meth.locks = false) (hv : meth.sig.returnType = none → v = none) (hK : cells ≤ K) (hN : slots ≤ N) (hQ : Q v T.heap locs)
    (st : ∀ fs, (∀ (f : JFrame) (acts : List Action), f.method = m → f.locked = none → f.entered = [] → (doReturn e (T.setTop f) acts v).1 = T.setFrames fs) → Steps p.tables e below S (T.setFrames fs)) : Go p e below (Left s K N Q) S := by
  obtain ⟨fs, hr, hrun, hended, hW, hsame⟩ := X.leave hv hlocks
  exact ⟨_, _, st fs hr, hrun, hended, v, locs, rfl, hQ, ⟨_, rfl⟩, hW, hsame.mono hK hN⟩
theorem ret_b (X : Stand p l e R s m args below meth c T locs cells slots) (hx : p.tables.exec = Jvm.exec) (hlocks : meth.locks = false) (hret : meth.sig.returnType = some .boolean) {pc : Nat} {Ls : Array Slot} {z : Int32} {rest : List Value} {K N : Nat} {Q : Option Value → Heap → List Loc → Prop} (hd : decode c.code pc = .ok (.ireturn, 1)) (hK : cells ≤ K) (hN : slots ≤ N)
    (hQ : Q (some (.int (z &&& 1))) T.heap locs) : Go p e below (Left s K N Q) (T.setTop (mkF m pc Ls (.int z :: rest))) :=
  Go.out X (v := some (.int (z &&& 1))) hlocks (fun h => by rw [hret] at h; cases h) hK hN hQ fun fs hr => retN X hx (t := .boolean) hret (by simp) hd hr
theorem ret_c (X : Stand p l e R s m args below meth c T locs cells slots) (hx : p.tables.exec = Jvm.exec) (hlocks : meth.locks = false) (hret : meth.sig.returnType = some .char) {pc : Nat} {Ls : Array Slot} {z : Int32} {rest : List Value} {K N : Nat} {Q : Option Value → Heap → List Loc → Prop} (hd : decode c.code pc = .ok (.ireturn, 1)) (hK : cells ≤ K) (hN : slots ≤ N)
    (hQ : Q (some (.int (nar .char z))) T.heap locs) : Go p e below (Left s K N Q) (T.setTop (mkF m pc Ls (.int z :: rest))) :=
  Go.out X (v := some (.int (nar .char z))) hlocks (fun h => by rw [hret] at h; cases h) hK hN hQ fun fs hr => retN X hx (t := .char) hret (by simp) hd hr
theorem ret_y (X : Stand p l e R s m args below meth c T locs cells slots) (hx : p.tables.exec = Jvm.exec) (hlocks : meth.locks = false) (hret : meth.sig.returnType = some .byte) {pc : Nat} {Ls : Array Slot} {z : Int32} {rest : List Value} {K N : Nat} {Q : Option Value → Heap → List Loc → Prop} (hd : decode c.code pc = .ok (.ireturn, 1)) (hK : cells ≤ K) (hN : slots ≤ N)
    (hQ : Q (some (.int (nar .byte z))) T.heap locs) : Go p e below (Left s K N Q) (T.setTop (mkF m pc Ls (.int z :: rest))) :=
  Go.out X (v := some (.int (nar .byte z))) hlocks (fun h => by rw [hret] at h; cases h) hK hN hQ fun fs hr => retN X hx (t := .byte) hret (by simp) hd hr
theorem ret_i (X : Stand p l e R s m args below meth c T locs cells slots) (hx : p.tables.exec = Jvm.exec) (hlocks : meth.locks = false) (hret : meth.sig.returnType = some .int) {pc : Nat} {Ls : Array Slot} {z : Int32} {rest : List Value} {K N : Nat} {Q : Option Value → Heap → List Loc → Prop} (hd : decode c.code pc = .ok (.ireturn, 1)) (hK : cells ≤ K) (hN : slots ≤ N)
    (hQ : Q (some (.int z)) T.heap locs) : Go p e below (Left s K N Q) (T.setTop (mkF m pc Ls (.int z :: rest))) :=
  Go.out X (v := some (.int z)) hlocks (fun h => by rw [hret] at h; cases h) hK hN hQ fun fs hr => retOut X hx hret rfl (Or.inl ⟨rfl, Or.inl rfl, z, rfl⟩) hd hr
theorem ret_l (X : Stand p l e R s m args below meth c T locs cells slots) (hx : p.tables.exec = Jvm.exec) (hlocks : meth.locks = false) (hret : meth.sig.returnType = some .long) {pc : Nat} {Ls : Array Slot} {z : Int64} {rest : List Value} {K N : Nat} {Q : Option Value → Heap → List Loc → Prop} (hd : decode c.code pc = .ok (.lreturn, 1)) (hK : cells ≤ K) (hN : slots ≤ N)
    (hQ : Q (some (.long z)) T.heap locs) : Go p e below (Left s K N Q) (T.setTop (mkF m pc Ls (.long z :: rest))) :=
  Go.out X (v := some (.long z)) hlocks (fun h => by rw [hret] at h; cases h) hK hN hQ fun fs hr => retOut X hx hret rfl (Or.inr (Or.inl ⟨rfl, rfl, z, rfl⟩)) hd hr
theorem ret_d (X : Stand p l e R s m args below meth c T locs cells slots) (hx : p.tables.exec = Jvm.exec) (hlocks : meth.locks = false) (hret : meth.sig.returnType = some .double) {pc : Nat} {Ls : Array Slot} {z : UInt64} {rest : List Value} {K N : Nat} {Q : Option Value → Heap → List Loc → Prop} (hd : decode c.code pc = .ok (.dreturn, 1)) (hK : cells ≤ K) (hN : slots ≤ N)
    (hQ : Q (some (.double z)) T.heap locs) : Go p e below (Left s K N Q) (T.setTop (mkF m pc Ls (.double z :: rest))) :=
  Go.out X (v := some (.double z)) hlocks (fun h => by rw [hret] at h; cases h) hK hN hQ fun fs hr => retOut X hx hret rfl (Or.inr (Or.inr (Or.inl ⟨rfl, rfl, z, rfl⟩))) hd hr
theorem ret_a (X : Stand p l e R s m args below meth c T locs cells slots) (hx : p.tables.exec = Jvm.exec) (hlocks : meth.locks = false) {t : FieldType} (hret : meth.sig.returnType = some t) (ht : t.isReference = true) {pc : Nat} {Ls : Array Slot} {v : Value} (hv : v.isRef = true) {rest : List Value} {K N : Nat} {Q : Option Value → Heap → List Loc → Prop} (hd : decode c.code pc = .ok (.areturn, 1)) (hK : cells ≤ K) (hN : slots ≤ N)
    (hQ : Q (some v) T.heap locs) : Go p e below (Left s K N Q) (T.setTop (mkF m pc Ls (v :: rest))) :=
  Go.out X (v := some v) hlocks (fun h => by rw [hret] at h; cases h) hK hN hQ fun fs hr => retOut X hx hret (by rcases ref_cases hv with rfl | ⟨a, rfl⟩ <;> cases t <;> first | rfl | cases ht) (Or.inr (Or.inr (Or.inr (Or.inr ⟨rfl, ht, hv⟩)))) hd hr
theorem ret_v (X : Stand p l e R s m args below meth c T locs cells slots) (hx : p.tables.exec = Jvm.exec) (hlocks : meth.locks = false) (hret : meth.sig.returnType = none) {pc : Nat} {Ls : Array Slot} {K N : Nat} {Q : Option Value → Heap → List Loc → Prop} (hd : decode c.code pc = .ok (.return_, 1)) (hK : cells ≤ K) (hN : slots ≤ N)
    (hQ : Q none T.heap locs) : Go p e below (Left s K N Q) (T.setTop (mkF m pc Ls [])) :=
  Go.out X (v := none) hlocks (fun _ => rfl) hK hN hQ fun fs hr => X.returnOut hx hret hd hr
/-- a call of an instance method, by its contract -/
theorem Go.virt (X : Stand p l e R s m args below meth c T locs cells slots) (hx : p.tables.exec = Jvm.exec) (hZ : Z.Warmed39 s.vm) {own C : String} {index : Nat} {y z : MethodName} (hown : s.vm.findClass own = some m.cls) (wl : (Cond.methodLink own index y).before a0 Z = true) (wd : (Cond.declares y).before a0 Z = true) (nf : NotFace s y)
    (wsel : (Cond.selects C y z).before a0 Z = true) (wi : (Cond.instanceMethod z).before a0 Z = true) {bytes : ByteArray} {maxL : Nat} {ret : Option FieldType} (wc : (Cond.code z bytes maxL ret).before a0 Z = true) (wz : (Cond.initialized z.cls).before a0 Z = true) (hy : y.cls ≠ "java/lang/invoke/MethodHandle" ∧ y.cls ≠ "java/lang/invoke/VarHandle")
    {rm : Room} {Q : Option Value → Heap → List Loc → Prop} {b : Addr} {argsL rest : List Value} (P : Pays l z bytes maxL ret rm Z (.ref b :: argsL).toArray h Q) (eT : T.heap = h) (E : Exa Z h b C) {pc : Nat} {Ls : Array Slot} {st : List Value} (hst : st = argsL.reverse ++ .ref b :: rest) (hsz : Ls.size = c.maxLocals) {ps : List FieldType} {r : Option FieldType} (hpd : parseMethodDescriptor y.desc = some ⟨ps, r⟩) (hlen : argsL.length = ps.length)
    (hd : decode c.code pc = .ok (.invokevirtual index, 3)) (W : Nat) (hW : (rest.map fun v => v.category).sum ≤ W) (hf : rm.frames + 1 ≤ R.frames) (hl : W + (maxL + 11) + rm.locals ≤ R.locals) (hc : cells + rm.cells ≤ R.cells) (hs : slots + rm.slots ≤ R.slots)
    (k : ∀ (v : Option Value) (T' : State) (L : List Loc), Stand p l e R s m args below meth c T' (locs ++ L) (cells + rm.cells) (slots + rm.slots) → Q v T'.heap L → Go p e below G (T'.setTop (mkF m (pc + 3) Ls (v.toList ++ rest)))) : Go p e below G (T.setTop (mkF m pc Ls st)) := by
  obtain ⟨cB, kB, hcB, -, hrecv⟩ := isOf hZ eT E
  obtain ⟨v, _, ⟨T', L', k', n'⟩, -, X', ⟨L, hQ, h1, h2, h3⟩, stp⟩ := X.virtualBack hx hown (mvT hZ wl) (mvT hZ wd) nf (mvT hZ wsel) (mvT hZ wi) hy (backOf (W := W) (P []) hZ wc wz hf hl) hcB hrecv (g := mkF m pc Ls st) rfl hsz (Steps.refl _) (argsL := argsL) (rest := rest) (lenOf hpd hlen) hst (by show 2 * 0 + _ ≤ _; omega) hd (fun _ _ => ⟨rfl, eT, hc, hs⟩)
  dsimp only at X' hQ h1 h2 h3 stp
  subst h1 h2 h3
  exact Go.tr stp (k v T' L X' hQ)
/-- a call of an inherited method through a subclass's name, by its contract -/
theorem Go.up (X : Stand p l e R s m args below meth c T locs cells slots) (hx : p.tables.exec = Jvm.exec) (hZ : Z.Warmed39 s.vm) {own C owner : String} {index : Nat} {xm y : MethodName} (hown : s.vm.findClass own = some m.cls) (wl : (Cond.methodLink own index xm).before a0 Z = true) (wsm : (Cond.sameMethod xm.cls owner xm.name xm.desc).before a0 Z = true)
    (wd : (Cond.declares ⟨owner, xm.name, xm.desc⟩).before a0 Z = true) (wsel : (Cond.selects C xm y).before a0 Z = true) (wi : (Cond.instanceMethod y).before a0 Z = true) {bytes : ByteArray} {maxL : Nat} {ret : Option FieldType} (wc : (Cond.code y bytes maxL ret).before a0 Z = true) (wz : (Cond.initialized y.cls).before a0 Z = true) (hy : owner ≠ "java/lang/invoke/MethodHandle" ∧ owner ≠ "java/lang/invoke/VarHandle")
    {rm : Room} {Q : Option Value → Heap → List Loc → Prop} {b : Addr} {argsL rest : List Value} (P : Pays l y bytes maxL ret rm Z (.ref b :: argsL).toArray h Q) (eT : T.heap = h) (E : Exa Z h b C) {pc : Nat} {Ls : Array Slot} {st : List Value} (hst : st = argsL.reverse ++ .ref b :: rest) (hsz : Ls.size = c.maxLocals) {ps : List FieldType} {r : Option FieldType} (hpd : parseMethodDescriptor xm.desc = some ⟨ps, r⟩) (hlen : argsL.length = ps.length)
    (hd : decode c.code pc = .ok (.invokevirtual index, 3)) (W : Nat) (hW : (rest.map fun v => v.category).sum ≤ W) (hf : rm.frames + 1 ≤ R.frames) (hl : W + (maxL + 11) + rm.locals ≤ R.locals) (hc : cells + rm.cells ≤ R.cells) (hs : slots + rm.slots ≤ R.slots)
    (k : ∀ (v : Option Value) (T' : State) (L : List Loc), Stand p l e R s m args below meth c T' (locs ++ L) (cells + rm.cells) (slots + rm.slots) → Q v T'.heap L → Go p e below G (T'.setTop (mkF m (pc + 3) Ls (v.toList ++ rest)))) : Go p e below G (T.setTop (mkF m pc Ls st)) := by
  obtain ⟨cB, kB, hcB, -, hrecv⟩ := isOf hZ eT E
  obtain ⟨v, _, ⟨T', L', k', n'⟩, -, X', ⟨L, hQ, h1, h2, h3⟩, stp⟩ := X.virtualBackUp hx hown (mvT hZ wl) (mvT hZ wsm) (mvT hZ wd) hy (mvT hZ wsel) (mvT hZ wi) (backOf (W := W) (P []) hZ wc wz hf hl) hcB hrecv (g := mkF m pc Ls st) rfl hsz (Steps.refl _) (argsL := argsL) (rest := rest) (lenOf hpd hlen) hst (by show 2 * 0 + _ ≤ _; omega) hd (fun _ _ => ⟨rfl, eT, hc, hs⟩)
  dsimp only at X' hQ h1 h2 h3 stp
  subst h1 h2 h3
  exact Go.tr stp (k v T' L X' hQ)
/-- a call of a private instance method by invokevirtual, by its contract -/
theorem Go.priv (X : Stand p l e R s m args below meth c T locs cells slots) (hx : p.tables.exec = Jvm.exec) (hZ : Z.Warmed39 s.vm) {own C : String} {index : Nat} {y : MethodName} (hown : s.vm.findClass own = some m.cls) (wl : (Cond.methodLink own index y).before a0 Z = true) (wi : (Cond.instanceMethod y).before a0 Z = true)
    (wsel : (Cond.selects y.cls y y).before a0 Z = true) (wp : (Cond.privateMethod y).before a0 Z = true) {bytes : ByteArray} {maxL : Nat} {ret : Option FieldType} (wc : (Cond.code y bytes maxL ret).before a0 Z = true) (wz : (Cond.initialized y.cls).before a0 Z = true) (hy : y.cls ≠ "java/lang/invoke/MethodHandle" ∧ y.cls ≠ "java/lang/invoke/VarHandle")
    {rm : Room} {Q : Option Value → Heap → List Loc → Prop} {b : Addr} {argsL rest : List Value} (P : Pays l y bytes maxL ret rm Z (.ref b :: argsL).toArray h Q) (eT : T.heap = h) (E : Exa Z h b C) {pc : Nat} {Ls : Array Slot} {st : List Value} (hst : st = argsL.reverse ++ .ref b :: rest) (hsz : Ls.size = c.maxLocals) {ps : List FieldType} {r : Option FieldType} (hpd : parseMethodDescriptor y.desc = some ⟨ps, r⟩) (hlen : argsL.length = ps.length)
    (hd : decode c.code pc = .ok (.invokevirtual index, 3)) (W : Nat) (hW : (rest.map fun v => v.category).sum ≤ W) (hf : rm.frames + 1 ≤ R.frames) (hl : W + (maxL + 11) + rm.locals ≤ R.locals) (hc : cells + rm.cells ≤ R.cells) (hs : slots + rm.slots ≤ R.slots)
    (k : ∀ (v : Option Value) (T' : State) (L : List Loc), Stand p l e R s m args below meth c T' (locs ++ L) (cells + rm.cells) (slots + rm.slots) → Q v T'.heap L → Go p e below G (T'.setTop (mkF m (pc + 3) Ls (v.toList ++ rest)))) : Go p e below G (T.setTop (mkF m pc Ls st)) := by
  obtain ⟨cell, hcell, hobj⟩ := E.cell
  obtain ⟨v, _, ⟨T', L', k', n'⟩, -, X', ⟨L, hQ, h1, h2, h3⟩, stp⟩ := X.privateBack hx hown (mvT hZ wl) (mvT hZ wi) (mvT hZ wsel) (Cond.privateMethod_at (mvP (args := args) hZ wp)) (mvT hZ wc) hy (backOf (W := W) (P []) hZ wc wz hf hl) (g := mkF m pc Ls st) rfl hsz (Steps.refl _) (a := b) (by rw [eT]; exact hcell) hobj (argsL := argsL) (rest := rest) (lenOf hpd hlen) hst (by show 2 * 0 + _ ≤ _; omega) hd (fun _ _ => ⟨rfl, eT, hc, hs⟩)
  dsimp only at X' hQ h1 h2 h3 stp
  subst h1 h2 h3
  exact Go.tr stp (k v T' L X' hQ)
/-- a call of an interface's method, by the contract of the method that it goes to -/
theorem Go.face (X : Stand p l e R s m args below meth c T locs cells slots) (hx : p.tables.exec = Jvm.exec) (hZ : Z.Warmed39 s.vm) {own C : String} {index count : Nat} {xi y : MethodName} (hown : s.vm.findClass own = some m.cls) (wl : (Cond.methodLink own index xi).before a0 Z = true) (wd : (Cond.declares xi).before a0 Z = true)
    (wf : (Cond.interfaceMethod xi.cls xi.cls xi.name xi.desc).before args s = true) (wsel : (Cond.selects C xi y).before a0 Z = true) (wi : (Cond.instanceMethod y).before a0 Z = true) (wpub : (Cond.publicMethod y).before a0 Z = true) (wun : (Cond.unhidden C xi.name xi.desc).before a0 Z = true) (wca : (Cond.castable C xi.cls).before a0 Z = true)
    {bytes : ByteArray} {maxL : Nat} {ret : Option FieldType} (wc : (Cond.code y bytes maxL ret).before a0 Z = true) (wz : (Cond.initialized y.cls).before a0 Z = true) (hy : xi.cls ≠ "java/lang/invoke/MethodHandle" ∧ xi.cls ≠ "java/lang/invoke/VarHandle")
    {rm : Room} {Q : Option Value → Heap → List Loc → Prop} {b : Addr} {argsL rest : List Value} (P : Pays l y bytes maxL ret rm Z (.ref b :: argsL).toArray h Q) (eT : T.heap = h) (E : Exa Z h b C) {pc : Nat} {Ls : Array Slot} {st : List Value} (hst : st = argsL.reverse ++ .ref b :: rest) (hsz : Ls.size = c.maxLocals) {ps : List FieldType} {r : Option FieldType} (hpd : parseMethodDescriptor xi.desc = some ⟨ps, r⟩) (hlen : argsL.length = ps.length)
    (hd : decode c.code pc = .ok (.invokeinterface index count, 5)) (W : Nat) (hW : (rest.map fun v => v.category).sum ≤ W) (hf : rm.frames + 1 ≤ R.frames) (hl : W + (maxL + 11) + rm.locals ≤ R.locals) (hc : cells + rm.cells ≤ R.cells) (hs : slots + rm.slots ≤ R.slots)
    (k : ∀ (v : Option Value) (T' : State) (L : List Loc), Stand p l e R s m args below meth c T' (locs ++ L) (cells + rm.cells) (slots + rm.slots) → Q v T'.heap L → Go p e below G (T'.setTop (mkF m (pc + 5) Ls (v.toList ++ rest)))) : Go p e below G (T.setTop (mkF m pc Ls st)) := by
  obtain ⟨cB, kB, hcB, hkB, hrecv⟩ := isOf hZ eT E
  obtain ⟨v, _, ⟨T', L', k', n'⟩, -, X', ⟨L, hQ, h1, h2, h3⟩, stp⟩ := X.interfaceBack hx hown (mvT hZ wl) (mvT hZ wd) wf (mvT hZ wsel) (mvT hZ wi) (mvT hZ wpub) (mvT hZ wun) (mvT hZ wca) hy (backOf (W := W) (P []) hZ wc wz hf hl) hcB hkB hrecv (g := mkF m pc Ls st) rfl hsz (Steps.refl _) (argsL := argsL) (rest := rest) (lenOf hpd hlen) hst (by show 2 * 0 + _ ≤ _; omega) hd (fun _ _ => ⟨rfl, eT, hc, hs⟩)
  dsimp only at X' hQ h1 h2 h3 stp
  subst h1 h2 h3
  exact Go.tr stp (k v T' L X' hQ)
/-- a call of a constructor, by its contract -/
theorem Go.init (X : Stand p l e R s m args below meth c T locs cells slots) (hx : p.tables.exec = Jvm.exec) (hZ : Z.Warmed39 s.vm) {own : String} {index : Nat} {y : MethodName} (hy1 : y.name = "<init>") (hown : s.vm.findClass own = some m.cls) (wl : (Cond.methodLink own index y).before a0 Z = true)
    (wi : (Cond.instanceMethod y).before a0 Z = true) {bytes : ByteArray} {maxL : Nat} (wc : (Cond.code y bytes maxL none).before a0 Z = true) (wz : (Cond.initialized y.cls).before a0 Z = true) (hy : y.cls ≠ "java/lang/invoke/MethodHandle" ∧ y.cls ≠ "java/lang/invoke/VarHandle")
    {rm : Room} {Q : Option Value → Heap → List Loc → Prop} {b : Addr} {argsL rest : List Value} (P : Pays l y bytes maxL none rm Z (.ref b :: argsL).toArray h Q) (eT : T.heap = h) {pc : Nat} {Ls : Array Slot} {st : List Value} (hst : st = argsL.reverse ++ .ref b :: rest) (hsz : Ls.size = c.maxLocals) {ps : List FieldType} {r : Option FieldType} (hpd : parseMethodDescriptor y.desc = some ⟨ps, r⟩) (hlen : argsL.length = ps.length)
    (hd : decode c.code pc = .ok (.invokespecial index, 3)) (W : Nat) (hW : (rest.map fun v => v.category).sum ≤ W) (hf : rm.frames + 1 ≤ R.frames) (hl : W + (maxL + 11) + rm.locals ≤ R.locals) (hc : cells + rm.cells ≤ R.cells) (hs : slots + rm.slots ≤ R.slots)
    (k : ∀ (v : Option Value) (T' : State) (L : List Loc), Stand p l e R s m args below meth c T' (locs ++ L) (cells + rm.cells) (slots + rm.slots) → Q v T'.heap L → Go p e below G (T'.setTop (mkF m (pc + 3) Ls (v.toList ++ rest)))) : Go p e below G (T.setTop (mkF m pc Ls st)) := by
  obtain ⟨v, _, ⟨T', L', k', n'⟩, -, X', ⟨L, hQ, h1, h2, h3⟩, stp⟩ := X.specialBack hx hy1 hown (mvT hZ wl) (mvT hZ wi) (mvT hZ wc) hy (backOf (W := W) (P []) hZ wc wz hf hl) (g := mkF m pc Ls st) rfl hsz (Steps.refl _) (a := b) (argsL := argsL) (rest := rest) (lenOf hpd hlen) hst (by show 2 * 0 + _ ≤ _; omega) hd (fun _ _ => ⟨rfl, eT, hc, hs⟩)
  dsimp only at X' hQ h1 h2 h3 stp
  subst h1 h2 h3
  exact Go.tr stp (k v T' L X' hQ)
/-- a call of a static method, by its contract -/
theorem Go.stat (X : Stand p l e R s m args below meth c T locs cells slots) (hx : p.tables.exec = Jvm.exec) (hZ : Z.Warmed39 s.vm) {own : String} {index : Nat} {y : MethodName} (hown : s.vm.findClass own = some m.cls) (wl : (Cond.methodLink own index y).before a0 Z = true)
    (wst : (Cond.static y).before a0 Z = true) (wz : (Cond.initialized y.cls).before a0 Z = true) {bytes : ByteArray} {maxL : Nat} {ret : Option FieldType} (wc : (Cond.code y bytes maxL ret).before a0 Z = true) (hy : y.cls ≠ "java/lang/invoke/MethodHandle" ∧ y.cls ≠ "java/lang/invoke/VarHandle")
    {rm : Room} {Q : Option Value → Heap → List Loc → Prop} {argsL rest : List Value} (P : Pays l y bytes maxL ret rm Z argsL.toArray h Q) (eT : T.heap = h) {pc : Nat} {Ls : Array Slot} {st : List Value} (hst : st = argsL.reverse ++ rest) (hsz : Ls.size = c.maxLocals) {ps : List FieldType} {r : Option FieldType} (hpd : parseMethodDescriptor y.desc = some ⟨ps, r⟩) (hlen : argsL.length = ps.length)
    (hd : decode c.code pc = .ok (.invokestatic index, 3)) (W : Nat) (hW : (rest.map fun v => v.category).sum ≤ W) (hf : rm.frames + 1 ≤ R.frames) (hl : W + (maxL + 11) + rm.locals ≤ R.locals) (hc : cells + rm.cells ≤ R.cells) (hs : slots + rm.slots ≤ R.slots)
    (k : ∀ (v : Option Value) (T' : State) (L : List Loc), Stand p l e R s m args below meth c T' (locs ++ L) (cells + rm.cells) (slots + rm.slots) → Q v T'.heap L → Go p e below G (T'.setTop (mkF m (pc + 3) Ls (v.toList ++ rest)))) : Go p e below G (T.setTop (mkF m pc Ls st)) := by
  obtain ⟨mk, hnamed⟩ := Cond.named_of_code (mvT (args := args) hZ wc)
  obtain ⟨methM, cM, hmeth, hcode, -, -, -, -, -, hsig⟩ := Cond.code_spec hnamed (mvT (args := args) hZ wc)
  obtain ⟨v, _, ⟨T', L', k', n'⟩, -, X', ⟨L, hQ, h1, h2, h3⟩, stp⟩ := X.staticBack hx hown (mvT hZ wl) (mvT hZ wst) (mvT hZ wz) hnamed hmeth hsig hy (backOf (W := W) (P []) hZ wc wz hf hl) (g := mkF m pc Ls st) rfl hsz (Steps.refl _) (argsL := argsL) (rest := rest) (lenOf hpd hlen) hst (by show 2 * 0 + _ ≤ _; omega) hd (fun _ _ => ⟨rfl, eT, hc, hs⟩)
  dsimp only at X' hQ h1 h2 h3 stp
  subst h1 h2 h3
  exact Go.tr stp (k v T' L X' hQ)
theorem own_alen (X : Stand p l e R s m args below meth c T locs cells slots) (hx : p.tables.exec = Jvm.exec) (hZ : Z.Warmed39 s.vm) (eT : T.heap = h) {a : Addr} {cl : Cell} {ty : FieldType} (A : Arr Z h a cl ty) {z : Int32} (q : cl.slots.size.toInt32 = z) {pc : Nat} {Ls : Array Slot} {st rest : List Value} (hst : st = .ref a :: rest)
    (hd : decode c.code pc = .ok (.arraylength, 1)) (target : State) (k : Steps p.tables e below (T.setTop (mkF m (pc + 1) Ls (.int z :: rest))) target) : Steps p.tables e below (T.setTop (mkF m pc Ls st)) target :=
  X.arraylength hx (by rw [eT]; exact A.1) (State.isArrayOf_alike hZ.alike A.2.1) (g := mkF m pc Ls st) rfl hst hd target (by rw [q]; exact k)
def ObjAt (h : Heap) (x : Addr) : Prop := ∃ cell : Cell, h[x]? = some cell ∧ cell.vm.isStatics = false
theorem own_obj_exa {x : Addr} {C : String} (F : Exa Z h x C) : ObjAt h x := by
  obtain ⟨c1, _, h1, _, _, h4, _⟩ := F
  exact ⟨c1, h1, h4⟩
theorem own_obj_arv {x : Addr} {k : ClassId} {ty : FieldType} {n : Int32} {vs : List Value} {d : Value} (F : Arv Z h x k ty n vs d) : ObjAt h x := by
  obtain ⟨c1, A, _⟩ := F
  exact ⟨c1, A.1, A.plain⟩
theorem own_sta_keep {h' : Heap} {C n d : String} {v : Value} {ws : List Addr} (F : Sta Z h C n d v) (K : Keep h h' ws) (hws : ∀ x ∈ ws, ObjAt h x) : Sta Z h' C n d v := by
  obtain ⟨cf, i, k, f, st, cell, h1, h2, h3, h4, h5, h6, h7⟩ := F
  refine ⟨cf, i, k, f, st, cell, h1, h2, h3, h4, K.2.1 _ _ h5 fun q => ?_, h6, h7⟩
  obtain ⟨c1, g1, g2⟩ := hws _ q
  cases h5.symm.trans g1
  rw [h6] at g2
  cases g2
theorem own_entry {n : Nat} {Ls : Array Slot} (h : Jvm.Sym.laidSlots args.toList ++ List.replicate (n - (Jvm.Sym.laidSlots args.toList).length) .unset = Ls.toList) : entryFrame m args n = mkF m 0 Ls [] := by
  have q : argsToLocals args n = Ls := Array.toList_inj.mp (by rw [Jvm.Sym.argsToLocals_toList]; exact h)
  unfold entryFrame
  rw [q]
theorem own_eqI {first : State} {o : Option Outcome} {idx : List Nat} {a b : Term} {x y : Int32} (ha : a.eval args first o idx s = some (.int x)) (hb : b.eval args first o idx s = some (.int y)) : (Jvm.Cond.eq a b).value args first o s idx = some (decide (x = y)) := by simp [Cond.value, ha, hb]
theorem own_nar_ref {t : FieldType} {v : Value} (hv : v.isRef = true) : narrow t v = v := by
  rcases ref_cases hv with rfl | ⟨a, rfl⟩ <;> cases t <;> rfl
theorem own_fit_ref {t : FieldType} {v : Value} (hv : v.isRef = true) (ht : t.isReference = true := by rfl) : fits t v = true := by
  rcases ref_cases hv with rfl | ⟨a, rfl⟩ <;> cases t <;> first | rfl | cases ht
end OwnGo
theorem dP0_0 : decode method_2_code 0 = .ok (.iload_n 0, 1) := by decide +kernel
theorem dP0_1 : decode method_2_code 1 = .ok (.ifCond .ne 7, 3) := by decide +kernel
theorem dP0_4 : decode method_2_code 4 = .ok (.getstatic 7, 3) := by decide +kernel
theorem dP0_7 : decode method_2_code 7 = .ok (.areturn, 1) := by decide +kernel
theorem pn_com_example_sunder_sunder_query_OperatorHoldsPinLaw : plainName "com/example/sunder/sunder/query/OperatorHoldsPinLaw" = true := by first | (simp [plainName, overriddenIn]; done) | decide +kernel
theorem ef_rmP0 (m : MethodId)  : entryFrame m #[(.int (0 : Int32))] 1 = mkF m 0 #[.val (.int (0 : Int32))] [] := by first | exact own_entry rfl | (simp [entryFrame, mkF, argsToLocals, Value.category]; done) | rfl
set_option maxRecDepth 65536 in
set_option maxHeartbeats 40000000 in
theorem rmP0 (l : Launch) (Z : State) (a0 : Array Value) (hw : ∀ d ∈ tables_1, d.before a0 Z = true) (o0 : Addr) (h0 : Heap) (n0 : Nat) (Z0 : n0 ≤ h0.size) (S_0 : Sta Z h0 "com/example/sunder/sunder/query/Condition$Operator" "EQUAL" "Lcom/example/sunder/sunder/query/Condition$Operator;" (.ref o0)) :
    Pays l (⟨"com/example/sunder/sunder/query/OperatorHoldsPinLaw", "pick", "(I)Lcom/example/sunder/sunder/query/Condition$Operator;"⟩ : MethodName) method_2_code 1 (some (.object "com/example/sunder/sunder/query/Condition$Operator")) ({ frames := 0, cells := 0, slots := 0, locals := 0 } : Room) Z #[(.int (0 : Int32))] h0 (fun v h L => v = some (.ref o0) ∧ Fr n0 L ∧ h = h0) := by
  refine Pays.of (plainFor_of_name pn_com_example_sunder_sunder_query_OperatorHoldsPinLaw) ?_
  intro pP eE sS m below methM cC T hx hby hml hret hlk hZ hown hnm eT X
  replace hown : sS.vm.findClass "com/example/sunder/sunder/query/OperatorHoldsPinLaw" = some m.cls := hown
  have N0 := Fr.nil n0
  refine Go.cast (ef_rmP0 m ) ?_
  refine Go.st (S' := T.setTop (mkF m 1 #[.val (.int (0 : Int32))] [(.int (0 : Int32))])) (fun t kt => XS.iloadN X.here hx rfl (hb hby dP0_0) rfl kt) ?_
  refine Go.st (S' := T.setTop (mkF m 4 #[.val (.int (0 : Int32))] [])) (fun t kt => XS.ifNo X.here hx rfl (hb hby dP0_1) rfl (XT.i0_ne_f (by decide)) kt) ?_
  obtain ⟨T1, X1, e1, st1⟩ := getS X hx hZ (host := "") hown (hw _ (List.mem_of_getElem? (i := 5) rfl)) Via.refl eT S_0 (g := (mkF m 4 #[.val (.int (0 : Int32))] [])) rfl (hb hby dP0_4)
  refine Go.st (S' := T1.setTop (mkF m 7 #[.val (.int (0 : Int32))] [(.ref o0)])) (fun t kt => st1 t kt) ?_
  exact ret_a X1 hx hlk hret rfl rfl (hb hby dP0_7) (by decide) (by decide) (⟨rfl, N0, e1⟩)
theorem dP1_0 : decode method_2_code 0 = .ok (.iload_n 0, 1) := by decide +kernel
theorem dP1_1 : decode method_2_code 1 = .ok (.ifCond .ne 7, 3) := by decide +kernel
theorem dP1_8 : decode method_2_code 8 = .ok (.iload_n 0, 1) := by decide +kernel
theorem dP1_9 : decode method_2_code 9 = .ok (.iconst 1, 1) := by decide +kernel
theorem dP1_10 : decode method_2_code 10 = .ok (.if_icmp .ne 7, 3) := by decide +kernel
theorem dP1_13 : decode method_2_code 13 = .ok (.getstatic 13, 3) := by decide +kernel
theorem dP1_16 : decode method_2_code 16 = .ok (.areturn, 1) := by decide +kernel
theorem ef_rmP1 (m : MethodId)  : entryFrame m #[(.int (1 : Int32))] 1 = mkF m 0 #[.val (.int (1 : Int32))] [] := by first | exact own_entry rfl | (simp [entryFrame, mkF, argsToLocals, Value.category]; done) | rfl
set_option maxRecDepth 65536 in
set_option maxHeartbeats 40000000 in
theorem rmP1 (l : Launch) (Z : State) (a0 : Array Value) (hw : ∀ d ∈ tables_1, d.before a0 Z = true) (o1 : Addr) (h0 : Heap) (n0 : Nat) (Z0 : n0 ≤ h0.size) (S_1 : Sta Z h0 "com/example/sunder/sunder/query/Condition$Operator" "NOT_EQUAL" "Lcom/example/sunder/sunder/query/Condition$Operator;" (.ref o1)) :
    Pays l (⟨"com/example/sunder/sunder/query/OperatorHoldsPinLaw", "pick", "(I)Lcom/example/sunder/sunder/query/Condition$Operator;"⟩ : MethodName) method_2_code 1 (some (.object "com/example/sunder/sunder/query/Condition$Operator")) ({ frames := 0, cells := 0, slots := 0, locals := 0 } : Room) Z #[(.int (1 : Int32))] h0 (fun v h L => v = some (.ref o1) ∧ Fr n0 L ∧ h = h0) := by
  refine Pays.of (plainFor_of_name pn_com_example_sunder_sunder_query_OperatorHoldsPinLaw) ?_
  intro pP eE sS m below methM cC T hx hby hml hret hlk hZ hown hnm eT X
  replace hown : sS.vm.findClass "com/example/sunder/sunder/query/OperatorHoldsPinLaw" = some m.cls := hown
  have N0 := Fr.nil n0
  refine Go.cast (ef_rmP1 m ) ?_
  refine Go.st (S' := T.setTop (mkF m 1 #[.val (.int (1 : Int32))] [(.int (1 : Int32))])) (fun t kt => XS.iloadN X.here hx rfl (hb hby dP1_0) rfl kt) ?_
  refine Go.st (S' := T.setTop (mkF m 8 #[.val (.int (1 : Int32))] [])) (fun t kt => XS.ifYes X.here hx rfl (pc0 := 1) (pc' := 8) rfl (hb hby dP1_1) rfl (XT.i0_ne_t (by decide)) (by decide) (by decide) kt) ?_
  refine Go.st (S' := T.setTop (mkF m 9 #[.val (.int (1 : Int32))] [(.int (1 : Int32))])) (fun t kt => XS.iloadN X.here hx rfl (hb hby dP1_8) rfl kt) ?_
  refine Go.st (S' := T.setTop (mkF m 10 #[.val (.int (1 : Int32))] [(.int (1 : Int32)), (.int (1 : Int32))])) (fun t kt => XS.iconst X.here hx rfl (hb hby dP1_9) kt) ?_
  refine Go.st (S' := T.setTop (mkF m 13 #[.val (.int (1 : Int32))] [])) (fun t kt => XS.icmpNo X.here hx rfl (hb hby dP1_10) rfl (XT.ii_ne_f (by decide)) kt) ?_
  obtain ⟨T1, X1, e1, st1⟩ := getS X hx hZ (host := "") hown (hw _ (List.mem_of_getElem? (i := 25) rfl)) Via.refl eT S_1 (g := (mkF m 13 #[.val (.int (1 : Int32))] [])) rfl (hb hby dP1_13)
  refine Go.st (S' := T1.setTop (mkF m 16 #[.val (.int (1 : Int32))] [(.ref o1)])) (fun t kt => st1 t kt) ?_
  exact ret_a X1 hx hlk hret rfl rfl (hb hby dP1_16) (by decide) (by decide) (⟨rfl, N0, e1⟩)
theorem dP2_0 : decode method_2_code 0 = .ok (.iload_n 0, 1) := by decide +kernel
theorem dP2_1 : decode method_2_code 1 = .ok (.ifCond .ne 7, 3) := by decide +kernel
theorem dP2_8 : decode method_2_code 8 = .ok (.iload_n 0, 1) := by decide +kernel
theorem dP2_9 : decode method_2_code 9 = .ok (.iconst 1, 1) := by decide +kernel
theorem dP2_10 : decode method_2_code 10 = .ok (.if_icmp .ne 7, 3) := by decide +kernel
theorem dP2_17 : decode method_2_code 17 = .ok (.iload_n 0, 1) := by decide +kernel
theorem dP2_18 : decode method_2_code 18 = .ok (.iconst 2, 1) := by decide +kernel
theorem dP2_19 : decode method_2_code 19 = .ok (.if_icmp .ne 7, 3) := by decide +kernel
theorem dP2_22 : decode method_2_code 22 = .ok (.getstatic 16, 3) := by decide +kernel
theorem dP2_25 : decode method_2_code 25 = .ok (.areturn, 1) := by decide +kernel
theorem ef_rmP2 (m : MethodId)  : entryFrame m #[(.int (2 : Int32))] 1 = mkF m 0 #[.val (.int (2 : Int32))] [] := by first | exact own_entry rfl | (simp [entryFrame, mkF, argsToLocals, Value.category]; done) | rfl
set_option maxRecDepth 65536 in
set_option maxHeartbeats 40000000 in
theorem rmP2 (l : Launch) (Z : State) (a0 : Array Value) (hw : ∀ d ∈ tables_1, d.before a0 Z = true) (o2 : Addr) (h0 : Heap) (n0 : Nat) (Z0 : n0 ≤ h0.size) (S_2 : Sta Z h0 "com/example/sunder/sunder/query/Condition$Operator" "LESS" "Lcom/example/sunder/sunder/query/Condition$Operator;" (.ref o2)) :
    Pays l (⟨"com/example/sunder/sunder/query/OperatorHoldsPinLaw", "pick", "(I)Lcom/example/sunder/sunder/query/Condition$Operator;"⟩ : MethodName) method_2_code 1 (some (.object "com/example/sunder/sunder/query/Condition$Operator")) ({ frames := 0, cells := 0, slots := 0, locals := 0 } : Room) Z #[(.int (2 : Int32))] h0 (fun v h L => v = some (.ref o2) ∧ Fr n0 L ∧ h = h0) := by
  refine Pays.of (plainFor_of_name pn_com_example_sunder_sunder_query_OperatorHoldsPinLaw) ?_
  intro pP eE sS m below methM cC T hx hby hml hret hlk hZ hown hnm eT X
  replace hown : sS.vm.findClass "com/example/sunder/sunder/query/OperatorHoldsPinLaw" = some m.cls := hown
  have N0 := Fr.nil n0
  refine Go.cast (ef_rmP2 m ) ?_
  refine Go.st (S' := T.setTop (mkF m 1 #[.val (.int (2 : Int32))] [(.int (2 : Int32))])) (fun t kt => XS.iloadN X.here hx rfl (hb hby dP2_0) rfl kt) ?_
  refine Go.st (S' := T.setTop (mkF m 8 #[.val (.int (2 : Int32))] [])) (fun t kt => XS.ifYes X.here hx rfl (pc0 := 1) (pc' := 8) rfl (hb hby dP2_1) rfl (XT.i0_ne_t (by decide)) (by decide) (by decide) kt) ?_
  refine Go.st (S' := T.setTop (mkF m 9 #[.val (.int (2 : Int32))] [(.int (2 : Int32))])) (fun t kt => XS.iloadN X.here hx rfl (hb hby dP2_8) rfl kt) ?_
  refine Go.st (S' := T.setTop (mkF m 10 #[.val (.int (2 : Int32))] [(.int (1 : Int32)), (.int (2 : Int32))])) (fun t kt => XS.iconst X.here hx rfl (hb hby dP2_9) kt) ?_
  refine Go.st (S' := T.setTop (mkF m 17 #[.val (.int (2 : Int32))] [])) (fun t kt => XS.icmpYes X.here hx rfl (pc0 := 10) (pc' := 17) rfl (hb hby dP2_10) rfl (XT.ii_ne_t (by decide)) (by decide) (by decide) kt) ?_
  refine Go.st (S' := T.setTop (mkF m 18 #[.val (.int (2 : Int32))] [(.int (2 : Int32))])) (fun t kt => XS.iloadN X.here hx rfl (hb hby dP2_17) rfl kt) ?_
  refine Go.st (S' := T.setTop (mkF m 19 #[.val (.int (2 : Int32))] [(.int (2 : Int32)), (.int (2 : Int32))])) (fun t kt => XS.iconst X.here hx rfl (hb hby dP2_18) kt) ?_
  refine Go.st (S' := T.setTop (mkF m 22 #[.val (.int (2 : Int32))] [])) (fun t kt => XS.icmpNo X.here hx rfl (hb hby dP2_19) rfl (XT.ii_ne_f (by decide)) kt) ?_
  obtain ⟨T1, X1, e1, st1⟩ := getS X hx hZ (host := "") hown (hw _ (List.mem_of_getElem? (i := 33) rfl)) Via.refl eT S_2 (g := (mkF m 22 #[.val (.int (2 : Int32))] [])) rfl (hb hby dP2_22)
  refine Go.st (S' := T1.setTop (mkF m 25 #[.val (.int (2 : Int32))] [(.ref o2)])) (fun t kt => st1 t kt) ?_
  exact ret_a X1 hx hlk hret rfl rfl (hb hby dP2_25) (by decide) (by decide) (⟨rfl, N0, e1⟩)
theorem dP3_0 : decode method_2_code 0 = .ok (.iload_n 0, 1) := by decide +kernel
theorem dP3_1 : decode method_2_code 1 = .ok (.ifCond .ne 7, 3) := by decide +kernel
theorem dP3_8 : decode method_2_code 8 = .ok (.iload_n 0, 1) := by decide +kernel
theorem dP3_9 : decode method_2_code 9 = .ok (.iconst 1, 1) := by decide +kernel
theorem dP3_10 : decode method_2_code 10 = .ok (.if_icmp .ne 7, 3) := by decide +kernel
theorem dP3_17 : decode method_2_code 17 = .ok (.iload_n 0, 1) := by decide +kernel
theorem dP3_18 : decode method_2_code 18 = .ok (.iconst 2, 1) := by decide +kernel
theorem dP3_19 : decode method_2_code 19 = .ok (.if_icmp .ne 7, 3) := by decide +kernel
theorem dP3_26 : decode method_2_code 26 = .ok (.iload_n 0, 1) := by decide +kernel
theorem dP3_27 : decode method_2_code 27 = .ok (.iconst 3, 1) := by decide +kernel
theorem dP3_28 : decode method_2_code 28 = .ok (.if_icmp .ne 7, 3) := by decide +kernel
theorem dP3_31 : decode method_2_code 31 = .ok (.getstatic 19, 3) := by decide +kernel
theorem dP3_34 : decode method_2_code 34 = .ok (.areturn, 1) := by decide +kernel
theorem ef_rmP3 (m : MethodId)  : entryFrame m #[(.int (3 : Int32))] 1 = mkF m 0 #[.val (.int (3 : Int32))] [] := by first | exact own_entry rfl | (simp [entryFrame, mkF, argsToLocals, Value.category]; done) | rfl
set_option maxRecDepth 65536 in
set_option maxHeartbeats 40000000 in
theorem rmP3 (l : Launch) (Z : State) (a0 : Array Value) (hw : ∀ d ∈ tables_1, d.before a0 Z = true) (o3 : Addr) (h0 : Heap) (n0 : Nat) (Z0 : n0 ≤ h0.size) (S_3 : Sta Z h0 "com/example/sunder/sunder/query/Condition$Operator" "LESS_OR_EQUAL" "Lcom/example/sunder/sunder/query/Condition$Operator;" (.ref o3)) :
    Pays l (⟨"com/example/sunder/sunder/query/OperatorHoldsPinLaw", "pick", "(I)Lcom/example/sunder/sunder/query/Condition$Operator;"⟩ : MethodName) method_2_code 1 (some (.object "com/example/sunder/sunder/query/Condition$Operator")) ({ frames := 0, cells := 0, slots := 0, locals := 0 } : Room) Z #[(.int (3 : Int32))] h0 (fun v h L => v = some (.ref o3) ∧ Fr n0 L ∧ h = h0) := by
  refine Pays.of (plainFor_of_name pn_com_example_sunder_sunder_query_OperatorHoldsPinLaw) ?_
  intro pP eE sS m below methM cC T hx hby hml hret hlk hZ hown hnm eT X
  replace hown : sS.vm.findClass "com/example/sunder/sunder/query/OperatorHoldsPinLaw" = some m.cls := hown
  have N0 := Fr.nil n0
  refine Go.cast (ef_rmP3 m ) ?_
  refine Go.st (S' := T.setTop (mkF m 1 #[.val (.int (3 : Int32))] [(.int (3 : Int32))])) (fun t kt => XS.iloadN X.here hx rfl (hb hby dP3_0) rfl kt) ?_
  refine Go.st (S' := T.setTop (mkF m 8 #[.val (.int (3 : Int32))] [])) (fun t kt => XS.ifYes X.here hx rfl (pc0 := 1) (pc' := 8) rfl (hb hby dP3_1) rfl (XT.i0_ne_t (by decide)) (by decide) (by decide) kt) ?_
  refine Go.st (S' := T.setTop (mkF m 9 #[.val (.int (3 : Int32))] [(.int (3 : Int32))])) (fun t kt => XS.iloadN X.here hx rfl (hb hby dP3_8) rfl kt) ?_
  refine Go.st (S' := T.setTop (mkF m 10 #[.val (.int (3 : Int32))] [(.int (1 : Int32)), (.int (3 : Int32))])) (fun t kt => XS.iconst X.here hx rfl (hb hby dP3_9) kt) ?_
  refine Go.st (S' := T.setTop (mkF m 17 #[.val (.int (3 : Int32))] [])) (fun t kt => XS.icmpYes X.here hx rfl (pc0 := 10) (pc' := 17) rfl (hb hby dP3_10) rfl (XT.ii_ne_t (by decide)) (by decide) (by decide) kt) ?_
  refine Go.st (S' := T.setTop (mkF m 18 #[.val (.int (3 : Int32))] [(.int (3 : Int32))])) (fun t kt => XS.iloadN X.here hx rfl (hb hby dP3_17) rfl kt) ?_
  refine Go.st (S' := T.setTop (mkF m 19 #[.val (.int (3 : Int32))] [(.int (2 : Int32)), (.int (3 : Int32))])) (fun t kt => XS.iconst X.here hx rfl (hb hby dP3_18) kt) ?_
  refine Go.st (S' := T.setTop (mkF m 26 #[.val (.int (3 : Int32))] [])) (fun t kt => XS.icmpYes X.here hx rfl (pc0 := 19) (pc' := 26) rfl (hb hby dP3_19) rfl (XT.ii_ne_t (by decide)) (by decide) (by decide) kt) ?_
  refine Go.st (S' := T.setTop (mkF m 27 #[.val (.int (3 : Int32))] [(.int (3 : Int32))])) (fun t kt => XS.iloadN X.here hx rfl (hb hby dP3_26) rfl kt) ?_
  refine Go.st (S' := T.setTop (mkF m 28 #[.val (.int (3 : Int32))] [(.int (3 : Int32)), (.int (3 : Int32))])) (fun t kt => XS.iconst X.here hx rfl (hb hby dP3_27) kt) ?_
  refine Go.st (S' := T.setTop (mkF m 31 #[.val (.int (3 : Int32))] [])) (fun t kt => XS.icmpNo X.here hx rfl (hb hby dP3_28) rfl (XT.ii_ne_f (by decide)) kt) ?_
  obtain ⟨T1, X1, e1, st1⟩ := getS X hx hZ (host := "") hown (hw _ (List.mem_of_getElem? (i := 29) rfl)) Via.refl eT S_3 (g := (mkF m 31 #[.val (.int (3 : Int32))] [])) rfl (hb hby dP3_31)
  refine Go.st (S' := T1.setTop (mkF m 34 #[.val (.int (3 : Int32))] [(.ref o3)])) (fun t kt => st1 t kt) ?_
  exact ret_a X1 hx hlk hret rfl rfl (hb hby dP3_34) (by decide) (by decide) (⟨rfl, N0, e1⟩)
theorem dP4_0 : decode method_2_code 0 = .ok (.iload_n 0, 1) := by decide +kernel
theorem dP4_1 : decode method_2_code 1 = .ok (.ifCond .ne 7, 3) := by decide +kernel
theorem dP4_8 : decode method_2_code 8 = .ok (.iload_n 0, 1) := by decide +kernel
theorem dP4_9 : decode method_2_code 9 = .ok (.iconst 1, 1) := by decide +kernel
theorem dP4_10 : decode method_2_code 10 = .ok (.if_icmp .ne 7, 3) := by decide +kernel
theorem dP4_17 : decode method_2_code 17 = .ok (.iload_n 0, 1) := by decide +kernel
theorem dP4_18 : decode method_2_code 18 = .ok (.iconst 2, 1) := by decide +kernel
theorem dP4_19 : decode method_2_code 19 = .ok (.if_icmp .ne 7, 3) := by decide +kernel
theorem dP4_26 : decode method_2_code 26 = .ok (.iload_n 0, 1) := by decide +kernel
theorem dP4_27 : decode method_2_code 27 = .ok (.iconst 3, 1) := by decide +kernel
theorem dP4_28 : decode method_2_code 28 = .ok (.if_icmp .ne 7, 3) := by decide +kernel
theorem dP4_35 : decode method_2_code 35 = .ok (.iload_n 0, 1) := by decide +kernel
theorem dP4_36 : decode method_2_code 36 = .ok (.iconst 4, 1) := by decide +kernel
theorem dP4_37 : decode method_2_code 37 = .ok (.if_icmp .ne 7, 3) := by decide +kernel
theorem dP4_40 : decode method_2_code 40 = .ok (.getstatic 22, 3) := by decide +kernel
theorem dP4_43 : decode method_2_code 43 = .ok (.areturn, 1) := by decide +kernel
theorem ef_rmP4 (m : MethodId)  : entryFrame m #[(.int (4 : Int32))] 1 = mkF m 0 #[.val (.int (4 : Int32))] [] := by first | exact own_entry rfl | (simp [entryFrame, mkF, argsToLocals, Value.category]; done) | rfl
set_option maxRecDepth 65536 in
set_option maxHeartbeats 40000000 in
theorem rmP4 (l : Launch) (Z : State) (a0 : Array Value) (hw : ∀ d ∈ tables_1, d.before a0 Z = true) (o4 : Addr) (h0 : Heap) (n0 : Nat) (Z0 : n0 ≤ h0.size) (S_4 : Sta Z h0 "com/example/sunder/sunder/query/Condition$Operator" "GREATER" "Lcom/example/sunder/sunder/query/Condition$Operator;" (.ref o4)) :
    Pays l (⟨"com/example/sunder/sunder/query/OperatorHoldsPinLaw", "pick", "(I)Lcom/example/sunder/sunder/query/Condition$Operator;"⟩ : MethodName) method_2_code 1 (some (.object "com/example/sunder/sunder/query/Condition$Operator")) ({ frames := 0, cells := 0, slots := 0, locals := 0 } : Room) Z #[(.int (4 : Int32))] h0 (fun v h L => v = some (.ref o4) ∧ Fr n0 L ∧ h = h0) := by
  refine Pays.of (plainFor_of_name pn_com_example_sunder_sunder_query_OperatorHoldsPinLaw) ?_
  intro pP eE sS m below methM cC T hx hby hml hret hlk hZ hown hnm eT X
  replace hown : sS.vm.findClass "com/example/sunder/sunder/query/OperatorHoldsPinLaw" = some m.cls := hown
  have N0 := Fr.nil n0
  refine Go.cast (ef_rmP4 m ) ?_
  refine Go.st (S' := T.setTop (mkF m 1 #[.val (.int (4 : Int32))] [(.int (4 : Int32))])) (fun t kt => XS.iloadN X.here hx rfl (hb hby dP4_0) rfl kt) ?_
  refine Go.st (S' := T.setTop (mkF m 8 #[.val (.int (4 : Int32))] [])) (fun t kt => XS.ifYes X.here hx rfl (pc0 := 1) (pc' := 8) rfl (hb hby dP4_1) rfl (XT.i0_ne_t (by decide)) (by decide) (by decide) kt) ?_
  refine Go.st (S' := T.setTop (mkF m 9 #[.val (.int (4 : Int32))] [(.int (4 : Int32))])) (fun t kt => XS.iloadN X.here hx rfl (hb hby dP4_8) rfl kt) ?_
  refine Go.st (S' := T.setTop (mkF m 10 #[.val (.int (4 : Int32))] [(.int (1 : Int32)), (.int (4 : Int32))])) (fun t kt => XS.iconst X.here hx rfl (hb hby dP4_9) kt) ?_
  refine Go.st (S' := T.setTop (mkF m 17 #[.val (.int (4 : Int32))] [])) (fun t kt => XS.icmpYes X.here hx rfl (pc0 := 10) (pc' := 17) rfl (hb hby dP4_10) rfl (XT.ii_ne_t (by decide)) (by decide) (by decide) kt) ?_
  refine Go.st (S' := T.setTop (mkF m 18 #[.val (.int (4 : Int32))] [(.int (4 : Int32))])) (fun t kt => XS.iloadN X.here hx rfl (hb hby dP4_17) rfl kt) ?_
  refine Go.st (S' := T.setTop (mkF m 19 #[.val (.int (4 : Int32))] [(.int (2 : Int32)), (.int (4 : Int32))])) (fun t kt => XS.iconst X.here hx rfl (hb hby dP4_18) kt) ?_
  refine Go.st (S' := T.setTop (mkF m 26 #[.val (.int (4 : Int32))] [])) (fun t kt => XS.icmpYes X.here hx rfl (pc0 := 19) (pc' := 26) rfl (hb hby dP4_19) rfl (XT.ii_ne_t (by decide)) (by decide) (by decide) kt) ?_
  refine Go.st (S' := T.setTop (mkF m 27 #[.val (.int (4 : Int32))] [(.int (4 : Int32))])) (fun t kt => XS.iloadN X.here hx rfl (hb hby dP4_26) rfl kt) ?_
  refine Go.st (S' := T.setTop (mkF m 28 #[.val (.int (4 : Int32))] [(.int (3 : Int32)), (.int (4 : Int32))])) (fun t kt => XS.iconst X.here hx rfl (hb hby dP4_27) kt) ?_
  refine Go.st (S' := T.setTop (mkF m 35 #[.val (.int (4 : Int32))] [])) (fun t kt => XS.icmpYes X.here hx rfl (pc0 := 28) (pc' := 35) rfl (hb hby dP4_28) rfl (XT.ii_ne_t (by decide)) (by decide) (by decide) kt) ?_
  refine Go.st (S' := T.setTop (mkF m 36 #[.val (.int (4 : Int32))] [(.int (4 : Int32))])) (fun t kt => XS.iloadN X.here hx rfl (hb hby dP4_35) rfl kt) ?_
  refine Go.st (S' := T.setTop (mkF m 37 #[.val (.int (4 : Int32))] [(.int (4 : Int32)), (.int (4 : Int32))])) (fun t kt => XS.iconst X.here hx rfl (hb hby dP4_36) kt) ?_
  refine Go.st (S' := T.setTop (mkF m 40 #[.val (.int (4 : Int32))] [])) (fun t kt => XS.icmpNo X.here hx rfl (hb hby dP4_37) rfl (XT.ii_ne_f (by decide)) kt) ?_
  obtain ⟨T1, X1, e1, st1⟩ := getS X hx hZ (host := "") hown (hw _ (List.mem_of_getElem? (i := 27) rfl)) Via.refl eT S_4 (g := (mkF m 40 #[.val (.int (4 : Int32))] [])) rfl (hb hby dP4_40)
  refine Go.st (S' := T1.setTop (mkF m 43 #[.val (.int (4 : Int32))] [(.ref o4)])) (fun t kt => st1 t kt) ?_
  exact ret_a X1 hx hlk hret rfl rfl (hb hby dP4_43) (by decide) (by decide) (⟨rfl, N0, e1⟩)
theorem dP5_0 : decode method_2_code 0 = .ok (.iload_n 0, 1) := by decide +kernel
theorem dP5_1 : decode method_2_code 1 = .ok (.ifCond .ne 7, 3) := by decide +kernel
theorem dP5_8 : decode method_2_code 8 = .ok (.iload_n 0, 1) := by decide +kernel
theorem dP5_9 : decode method_2_code 9 = .ok (.iconst 1, 1) := by decide +kernel
theorem dP5_10 : decode method_2_code 10 = .ok (.if_icmp .ne 7, 3) := by decide +kernel
theorem dP5_17 : decode method_2_code 17 = .ok (.iload_n 0, 1) := by decide +kernel
theorem dP5_18 : decode method_2_code 18 = .ok (.iconst 2, 1) := by decide +kernel
theorem dP5_19 : decode method_2_code 19 = .ok (.if_icmp .ne 7, 3) := by decide +kernel
theorem dP5_26 : decode method_2_code 26 = .ok (.iload_n 0, 1) := by decide +kernel
theorem dP5_27 : decode method_2_code 27 = .ok (.iconst 3, 1) := by decide +kernel
theorem dP5_28 : decode method_2_code 28 = .ok (.if_icmp .ne 7, 3) := by decide +kernel
theorem dP5_35 : decode method_2_code 35 = .ok (.iload_n 0, 1) := by decide +kernel
theorem dP5_36 : decode method_2_code 36 = .ok (.iconst 4, 1) := by decide +kernel
theorem dP5_37 : decode method_2_code 37 = .ok (.if_icmp .ne 7, 3) := by decide +kernel
theorem dP5_44 : decode method_2_code 44 = .ok (.getstatic 25, 3) := by decide +kernel
theorem dP5_47 : decode method_2_code 47 = .ok (.areturn, 1) := by decide +kernel
theorem ef_rmP5 (m : MethodId)  : entryFrame m #[(.int (5 : Int32))] 1 = mkF m 0 #[.val (.int (5 : Int32))] [] := by first | exact own_entry rfl | (simp [entryFrame, mkF, argsToLocals, Value.category]; done) | rfl
set_option maxRecDepth 65536 in
set_option maxHeartbeats 40000000 in
theorem rmP5 (l : Launch) (Z : State) (a0 : Array Value) (hw : ∀ d ∈ tables_1, d.before a0 Z = true) (o5 : Addr) (h0 : Heap) (n0 : Nat) (Z0 : n0 ≤ h0.size) (S_5 : Sta Z h0 "com/example/sunder/sunder/query/Condition$Operator" "GREATER_OR_EQUAL" "Lcom/example/sunder/sunder/query/Condition$Operator;" (.ref o5)) :
    Pays l (⟨"com/example/sunder/sunder/query/OperatorHoldsPinLaw", "pick", "(I)Lcom/example/sunder/sunder/query/Condition$Operator;"⟩ : MethodName) method_2_code 1 (some (.object "com/example/sunder/sunder/query/Condition$Operator")) ({ frames := 0, cells := 0, slots := 0, locals := 0 } : Room) Z #[(.int (5 : Int32))] h0 (fun v h L => v = some (.ref o5) ∧ Fr n0 L ∧ h = h0) := by
  refine Pays.of (plainFor_of_name pn_com_example_sunder_sunder_query_OperatorHoldsPinLaw) ?_
  intro pP eE sS m below methM cC T hx hby hml hret hlk hZ hown hnm eT X
  replace hown : sS.vm.findClass "com/example/sunder/sunder/query/OperatorHoldsPinLaw" = some m.cls := hown
  have N0 := Fr.nil n0
  refine Go.cast (ef_rmP5 m ) ?_
  refine Go.st (S' := T.setTop (mkF m 1 #[.val (.int (5 : Int32))] [(.int (5 : Int32))])) (fun t kt => XS.iloadN X.here hx rfl (hb hby dP5_0) rfl kt) ?_
  refine Go.st (S' := T.setTop (mkF m 8 #[.val (.int (5 : Int32))] [])) (fun t kt => XS.ifYes X.here hx rfl (pc0 := 1) (pc' := 8) rfl (hb hby dP5_1) rfl (XT.i0_ne_t (by decide)) (by decide) (by decide) kt) ?_
  refine Go.st (S' := T.setTop (mkF m 9 #[.val (.int (5 : Int32))] [(.int (5 : Int32))])) (fun t kt => XS.iloadN X.here hx rfl (hb hby dP5_8) rfl kt) ?_
  refine Go.st (S' := T.setTop (mkF m 10 #[.val (.int (5 : Int32))] [(.int (1 : Int32)), (.int (5 : Int32))])) (fun t kt => XS.iconst X.here hx rfl (hb hby dP5_9) kt) ?_
  refine Go.st (S' := T.setTop (mkF m 17 #[.val (.int (5 : Int32))] [])) (fun t kt => XS.icmpYes X.here hx rfl (pc0 := 10) (pc' := 17) rfl (hb hby dP5_10) rfl (XT.ii_ne_t (by decide)) (by decide) (by decide) kt) ?_
  refine Go.st (S' := T.setTop (mkF m 18 #[.val (.int (5 : Int32))] [(.int (5 : Int32))])) (fun t kt => XS.iloadN X.here hx rfl (hb hby dP5_17) rfl kt) ?_
  refine Go.st (S' := T.setTop (mkF m 19 #[.val (.int (5 : Int32))] [(.int (2 : Int32)), (.int (5 : Int32))])) (fun t kt => XS.iconst X.here hx rfl (hb hby dP5_18) kt) ?_
  refine Go.st (S' := T.setTop (mkF m 26 #[.val (.int (5 : Int32))] [])) (fun t kt => XS.icmpYes X.here hx rfl (pc0 := 19) (pc' := 26) rfl (hb hby dP5_19) rfl (XT.ii_ne_t (by decide)) (by decide) (by decide) kt) ?_
  refine Go.st (S' := T.setTop (mkF m 27 #[.val (.int (5 : Int32))] [(.int (5 : Int32))])) (fun t kt => XS.iloadN X.here hx rfl (hb hby dP5_26) rfl kt) ?_
  refine Go.st (S' := T.setTop (mkF m 28 #[.val (.int (5 : Int32))] [(.int (3 : Int32)), (.int (5 : Int32))])) (fun t kt => XS.iconst X.here hx rfl (hb hby dP5_27) kt) ?_
  refine Go.st (S' := T.setTop (mkF m 35 #[.val (.int (5 : Int32))] [])) (fun t kt => XS.icmpYes X.here hx rfl (pc0 := 28) (pc' := 35) rfl (hb hby dP5_28) rfl (XT.ii_ne_t (by decide)) (by decide) (by decide) kt) ?_
  refine Go.st (S' := T.setTop (mkF m 36 #[.val (.int (5 : Int32))] [(.int (5 : Int32))])) (fun t kt => XS.iloadN X.here hx rfl (hb hby dP5_35) rfl kt) ?_
  refine Go.st (S' := T.setTop (mkF m 37 #[.val (.int (5 : Int32))] [(.int (4 : Int32)), (.int (5 : Int32))])) (fun t kt => XS.iconst X.here hx rfl (hb hby dP5_36) kt) ?_
  refine Go.st (S' := T.setTop (mkF m 44 #[.val (.int (5 : Int32))] [])) (fun t kt => XS.icmpYes X.here hx rfl (pc0 := 37) (pc' := 44) rfl (hb hby dP5_37) rfl (XT.ii_ne_t (by decide)) (by decide) (by decide) kt) ?_
  obtain ⟨T1, X1, e1, st1⟩ := getS X hx hZ (host := "") hown (hw _ (List.mem_of_getElem? (i := 31) rfl)) Via.refl eT S_5 (g := (mkF m 44 #[.val (.int (5 : Int32))] [])) rfl (hb hby dP5_44)
  refine Go.st (S' := T1.setTop (mkF m 47 #[.val (.int (5 : Int32))] [(.ref o5)])) (fun t kt => st1 t kt) ?_
  exact ret_a X1 hx hlk hret rfl rfl (hb hby dP5_47) (by decide) (by decide) (⟨rfl, N0, e1⟩)
theorem dOR_0 : decode jdk_37_method_2_code 0 = .ok (.aload_n 0, 1) := by decide +kernel
theorem dOR_1 : decode jdk_37_method_2_code 1 = .ok (.getfield 7, 3) := by decide +kernel
theorem dOR_4 : decode jdk_37_method_2_code 4 = .ok (.ireturn, 1) := by decide +kernel
theorem pn_java_lang_Enum : plainName "java/lang/Enum" = true := by first | (simp [plainName, overriddenIn]; done) | decide +kernel
theorem ef_rmOR (m : MethodId) (a : Addr) : entryFrame m #[(.ref a)] 1 = mkF m 0 #[.val (.ref a)] [] := by first | exact own_entry rfl | (simp [entryFrame, mkF, argsToLocals, Value.category]; done) | rfl
set_option maxRecDepth 65536 in
set_option maxHeartbeats 40000000 in
theorem rmOR (l : Launch) (Z : State) (a0 : Array Value) (hw : ∀ d ∈ tables_1, d.before a0 Z = true) (a : Addr) (u : Int32) (h0 : Heap) (n0 : Nat) (Z0 : n0 ≤ h0.size) (F : Fld Z h0 a "java/lang/Enum" "ordinal" "I" (.int u)) :
    Pays l (⟨"java/lang/Enum", "ordinal", "()I"⟩ : MethodName) jdk_37_method_2_code 1 (some .int) ({ frames := 0, cells := 0, slots := 0, locals := 0 } : Room) Z #[(.ref a)] h0 (fun v h L => v = some (.int u) ∧ Fr n0 L ∧ h = h0) := by
  refine Pays.of (plainFor_of_name pn_java_lang_Enum) ?_
  intro pP eE sS m below methM cC T hx hby hml hret hlk hZ hown hnm eT X
  replace hown : sS.vm.findClass "java/lang/Enum" = some m.cls := hown
  have N0 := Fr.nil n0
  refine Go.cast (ef_rmOR m a) ?_
  refine Go.st (S' := T.setTop (mkF m 1 #[.val (.ref a)] [(.ref a)])) (fun t kt => XS.aloadN X.here hx rfl (hb hby dOR_0) rfl rfl kt) ?_
  obtain ⟨T1, X1, e1, st1⟩ := getF X hx hZ hown (host := "") (Or.inl (hw _ (List.mem_of_getElem? (i := 20) rfl))) Via.refl eT F (g := (mkF m 1 #[.val (.ref a)] [(.ref a)])) rfl rfl (hb hby dOR_1)
  refine Go.st (S' := T1.setTop (mkF m 4 #[.val (.ref a)] [(.int u)])) (fun t kt => st1 t kt) ?_
  exact ret_i X1 hx hlk hret (hb hby dOR_4) (by decide) (by decide) (⟨rfl, N0, e1⟩)
theorem own_b53 (x : Int32) : B53 x.toInt64 := by
  have h := rng32 x
  unfold B53
  rw [c_i2l]
  omega
theorem own_cmp (a b : Int32) (o : CmpOp) : cmpValue (FP.dcmp (FP.i2d a) (FP.i2d b)) o = lcmpW a.toInt64 b.toInt64 := by
  rw [i2d_w, i2d_w]
  exact dcmpV_w (own_b53 a) (own_b53 b) o
theorem own_l64 (a b : Int32) : (a.toInt64 < b.toInt64) ↔ a < b := by
  rw [Int64.lt_iff_toInt_lt, Int32.lt_iff_toInt_lt, c_i2l, c_i2l]
theorem own_e64 (a b : Int32) : (a.toInt64 = b.toInt64) ↔ a = b := by
  rw [← Int64.toInt_inj, ← Int32.toInt_inj, c_i2l, c_i2l]
theorem own_eq0 {a b : Int32} {da db : UInt64} (ha : da = FP.i2d a) (hb : db = FP.i2d b) (o : CmpOp) : (cmpValue (FP.dcmp da db) o = 0) ↔ a = b := by
  subst ha hb
  rw [own_cmp, lw_eq, own_e64]
theorem own_lt0 {a b : Int32} {da db : UInt64} (ha : da = FP.i2d a) (hb : db = FP.i2d b) (o : CmpOp) : (cmpValue (FP.dcmp da db) o < 0) ↔ a < b := by
  subst ha hb
  rw [own_cmp, lw_lt, own_l64]
theorem own_gt0 {a b : Int32} {da db : UInt64} (ha : da = FP.i2d a) (hb : db = FP.i2d b) (o : CmpOp) : (0 < cmpValue (FP.dcmp da db) o) ↔ b < a := by
  subst ha hb
  rw [own_cmp, lw_gt, own_l64]
theorem dH0_0 : decode prog_15_method_5_code 0 = .ok (.aload_n 0, 1) := by decide +kernel
theorem dH0_1 : decode prog_15_method_5_code 1 = .ok (.invokevirtual 45, 3) := by decide +kernel
theorem dH0_4 : decode prog_15_method_5_code 4 = .ok (.tableswitch 112 0 5 #[40, 52, 64, 76, 88, 100], 40) := by decide +kernel
theorem dH0_44 : decode prog_15_method_5_code 44 = .ok (.dload_n 1, 1) := by decide +kernel
theorem dH0_45 : decode prog_15_method_5_code 45 = .ok (.dload_n 3, 1) := by decide +kernel
theorem dH0_46 : decode prog_15_method_5_code 46 = .ok (.dcmp .l, 1) := by decide +kernel
theorem dH0_47 : decode prog_15_method_5_code 47 = .ok (.ifCond .ne 7, 3) := by decide +kernel
theorem dH0_50 : decode prog_15_method_5_code 50 = .ok (.iconst 1, 1) := by decide +kernel
theorem dH0_51 : decode prog_15_method_5_code 51 = .ok (.goto 4, 3) := by decide +kernel
theorem dH0_54 : decode prog_15_method_5_code 54 = .ok (.iconst 0, 1) := by decide +kernel
theorem dH0_55 : decode prog_15_method_5_code 55 = .ok (.ireturn, 1) := by decide +kernel
theorem pd___I : parseMethodDescriptor "()I" = some ⟨[], some .int⟩ := by decide +kernel
theorem pn_com_example_sunder_sunder_query_Condition_Operator : plainName "com/example/sunder/sunder/query/Condition$Operator" = true := by first | (simp [plainName, overriddenIn]; done) | decide +kernel
theorem ef_rmH0 (m : MethodId) (q : Addr) (da : UInt64) (db : UInt64) : entryFrame m #[(.ref q), (.double da), (.double db)] 5 = mkF m 0 #[.val (.ref q), .val (.double da), .second, .val (.double db), .second] [] := by first | exact own_entry rfl | (simp [entryFrame, mkF, argsToLocals, Value.category]; done) | rfl
set_option maxRecDepth 65536 in
set_option maxHeartbeats 40000000 in
theorem rmH0 (l : Launch) (Z : State) (a0 : Array Value) (hw : ∀ d ∈ tables_1, d.before a0 Z = true) (q : Addr) (da db : UInt64) (a b r : Int32) (h0 : Heap) (n0 : Nat) (Z0 : n0 ≤ h0.size) (E_q : Exa Z h0 q "com/example/sunder/sunder/query/Condition$Operator") (F_o : Fld Z h0 q "java/lang/Enum" "ordinal" "I" (.int (0 : Int32))) (hda : da = FP.i2d a) (hdb : db = FP.i2d b) (hr : r = if a = b then 1 else 0) :
    Pays l (⟨"com/example/sunder/sunder/query/Condition$Operator", "holds", "(DD)Z"⟩ : MethodName) prog_15_method_5_code 5 (some .boolean) ({ frames := 1, cells := 0, slots := 0, locals := 12 } : Room) Z #[(.ref q), (.double da), (.double db)] h0 (fun v h L => v = some (.int r) ∧ Fr n0 L ∧ h = h0) := by
  refine Pays.of (plainFor_of_name pn_com_example_sunder_sunder_query_Condition_Operator) ?_
  intro pP eE sS m below methM cC T hx hby hml hret hlk hZ hown hnm eT X
  replace hown : sS.vm.findClass "com/example/sunder/sunder/query/Condition$Operator" = some m.cls := hown
  have N0 := Fr.nil n0
  refine Go.cast (ef_rmH0 m q da db) ?_
  refine Go.st (S' := T.setTop (mkF m 1 #[.val (.ref q), .val (.double da), .second, .val (.double db), .second] [(.ref q)])) (fun t kt => XS.aloadN X.here hx rfl (hb hby dH0_0) rfl rfl kt) ?_
  refine Go.up X hx hZ hown (hw _ (List.mem_of_getElem? (i := 13) rfl)) (hw _ (List.mem_of_getElem? (i := 14) rfl)) (hw _ (List.mem_of_getElem? (i := 15) rfl)) (hw _ (List.mem_of_getElem? (i := 17) rfl)) (hw _ (List.mem_of_getElem? (i := 16) rfl)) (hw _ (List.mem_of_getElem? (i := 19) rfl)) (hw _ (List.mem_of_getElem? (i := 18) rfl)) (by decide) (b := q) (argsL := []) (rest := []) (rmOR l Z a0 hw q (0 : Int32) h0 n0 Z0 F_o) eT E_q rfl (by rw [hml]; rfl) pd___I rfl (hb hby dH0_1) 0 (Nat.le_refl _) (by decide) (by decide) (by decide) (by decide) ?_
  intro v1 T1 L1 X1 hQ1
  obtain ⟨hv1, N1', e1⟩ := hQ1
  subst hv1
  have N1 := Fr.app N0 N1'
  show Go pP eE below _ (T1.setTop (mkF m 4 #[.val (.ref q), .val (.double da), .second, .val (.double db), .second] [(.int (0 : Int32))]))
  refine Go.st (S' := T1.setTop (mkF m 44 #[.val (.ref q), .val (.double da), .second, .val (.double db), .second] [])) (fun t kt => XS.tswIn X1.here hx rfl (pc0 := 4) (pc' := 44) rfl (hb hby dH0_4) rfl (by decide) rfl (by decide) (by decide) kt) ?_
  refine Go.st (S' := T1.setTop (mkF m 45 #[.val (.ref q), .val (.double da), .second, .val (.double db), .second] [(.double da)])) (fun t kt => XS.dloadN X1.here hx rfl (hb hby dH0_44) rfl kt) ?_
  refine Go.st (S' := T1.setTop (mkF m 46 #[.val (.ref q), .val (.double da), .second, .val (.double db), .second] [(.double db), (.double da)])) (fun t kt => XS.dloadN X1.here hx rfl (hb hby dH0_45) rfl kt) ?_
  refine Go.st (S' := T1.setTop (mkF m 47 #[.val (.ref q), .val (.double da), .second, .val (.double db), .second] [(.int (cmpValue (FP.dcmp da db) .l))])) (fun t kt => XS.dcmpS X1.here hx rfl (hb hby dH0_46) rfl rfl kt) ?_
  by_cases hc47_2 : (cmpValue (FP.dcmp da db) .l) = 0
  · refine Go.st (S' := T1.setTop (mkF m 50 #[.val (.ref q), .val (.double da), .second, .val (.double db), .second] [])) (fun t kt => XS.ifNo X1.here hx rfl (hb hby dH0_47) rfl (XT.i0_ne_f hc47_2) kt) ?_
    refine Go.st (S' := T1.setTop (mkF m 51 #[.val (.ref q), .val (.double da), .second, .val (.double db), .second] [(.int (1 : Int32))])) (fun t kt => XS.iconst X1.here hx rfl (hb hby dH0_50) kt) ?_
    refine Go.st (S' := T1.setTop (mkF m 55 #[.val (.ref q), .val (.double da), .second, .val (.double db), .second] [(.int (1 : Int32))])) (fun t kt => XS.goto X1.here hx rfl (pc0 := 51) (pc' := 55) rfl (hb hby dH0_51) (by decide) (by decide) kt) ?_
    exact ret_b X1 hx hlk hret (hb hby dH0_55) (by decide) (by decide) (⟨by rw [own_eq0 hda hdb] at hc47_2; rw [hr]; simp [hc47_2] <;> rfl, N1, e1⟩)
  · refine Go.st (S' := T1.setTop (mkF m 54 #[.val (.ref q), .val (.double da), .second, .val (.double db), .second] [])) (fun t kt => XS.ifYes X1.here hx rfl (pc0 := 47) (pc' := 54) rfl (hb hby dH0_47) rfl (XT.i0_ne_t hc47_2) (by decide) (by decide) kt) ?_
    refine Go.st (S' := T1.setTop (mkF m 55 #[.val (.ref q), .val (.double da), .second, .val (.double db), .second] [(.int (0 : Int32))])) (fun t kt => XS.iconst X1.here hx rfl (hb hby dH0_54) kt) ?_
    exact ret_b X1 hx hlk hret (hb hby dH0_55) (by decide) (by decide) (⟨by rw [own_eq0 hda hdb] at hc47_2; rw [hr]; simp [hc47_2] <;> rfl, N1, e1⟩)
theorem dE0_0 : decode method_3_code 0 = .ok (.iload_n 0, 1) := by decide +kernel
theorem dE0_1 : decode method_3_code 1 = .ok (.ifCond .ne 14, 3) := by decide +kernel
theorem dE0_4 : decode method_3_code 4 = .ok (.iload_n 1, 1) := by decide +kernel
theorem dE0_5 : decode method_3_code 5 = .ok (.iload_n 2, 1) := by decide +kernel
theorem dE0_6 : decode method_3_code 6 = .ok (.if_icmp .ne 7, 3) := by decide +kernel
theorem dE0_9 : decode method_3_code 9 = .ok (.iconst 1, 1) := by decide +kernel
theorem dE0_10 : decode method_3_code 10 = .ok (.goto 4, 3) := by decide +kernel
theorem dE0_13 : decode method_3_code 13 = .ok (.iconst 0, 1) := by decide +kernel
theorem dE0_14 : decode method_3_code 14 = .ok (.ireturn, 1) := by decide +kernel
theorem ef_rmE0 (m : MethodId) (a : Int32) (b : Int32) : entryFrame m #[(.int (0 : Int32)), (.int a), (.int b)] 3 = mkF m 0 #[.val (.int (0 : Int32)), .val (.int a), .val (.int b)] [] := by first | exact own_entry rfl | (simp [entryFrame, mkF, argsToLocals, Value.category]; done) | rfl
set_option maxRecDepth 65536 in
set_option maxHeartbeats 40000000 in
theorem rmE0 (l : Launch) (Z : State) (a0 : Array Value) (hw : ∀ d ∈ tables_1, d.before a0 Z = true) (a b r : Int32) (h0 : Heap) (n0 : Nat) (Z0 : n0 ≤ h0.size) (hr : r = if a = b then 1 else 0) :
    Pays l (⟨"com/example/sunder/sunder/query/OperatorHoldsPinLaw", "expected", "(III)Z"⟩ : MethodName) method_3_code 3 (some .boolean) ({ frames := 0, cells := 0, slots := 0, locals := 0 } : Room) Z #[(.int (0 : Int32)), (.int a), (.int b)] h0 (fun v h L => v = some (.int r) ∧ Fr n0 L ∧ h = h0) := by
  refine Pays.of (plainFor_of_name pn_com_example_sunder_sunder_query_OperatorHoldsPinLaw) ?_
  intro pP eE sS m below methM cC T hx hby hml hret hlk hZ hown hnm eT X
  replace hown : sS.vm.findClass "com/example/sunder/sunder/query/OperatorHoldsPinLaw" = some m.cls := hown
  have N0 := Fr.nil n0
  refine Go.cast (ef_rmE0 m a b) ?_
  refine Go.st (S' := T.setTop (mkF m 1 #[.val (.int (0 : Int32)), .val (.int a), .val (.int b)] [(.int (0 : Int32))])) (fun t kt => XS.iloadN X.here hx rfl (hb hby dE0_0) rfl kt) ?_
  refine Go.st (S' := T.setTop (mkF m 4 #[.val (.int (0 : Int32)), .val (.int a), .val (.int b)] [])) (fun t kt => XS.ifNo X.here hx rfl (hb hby dE0_1) rfl (XT.i0_ne_f (by decide)) kt) ?_
  refine Go.st (S' := T.setTop (mkF m 5 #[.val (.int (0 : Int32)), .val (.int a), .val (.int b)] [(.int a)])) (fun t kt => XS.iloadN X.here hx rfl (hb hby dE0_4) rfl kt) ?_
  refine Go.st (S' := T.setTop (mkF m 6 #[.val (.int (0 : Int32)), .val (.int a), .val (.int b)] [(.int b), (.int a)])) (fun t kt => XS.iloadN X.here hx rfl (hb hby dE0_5) rfl kt) ?_
  by_cases hc6_1 : a = b
  · refine Go.st (S' := T.setTop (mkF m 9 #[.val (.int (0 : Int32)), .val (.int a), .val (.int b)] [])) (fun t kt => XS.icmpNo X.here hx rfl (hb hby dE0_6) rfl (XT.ii_ne_f hc6_1) kt) ?_
    refine Go.st (S' := T.setTop (mkF m 10 #[.val (.int (0 : Int32)), .val (.int a), .val (.int b)] [(.int (1 : Int32))])) (fun t kt => XS.iconst X.here hx rfl (hb hby dE0_9) kt) ?_
    refine Go.st (S' := T.setTop (mkF m 14 #[.val (.int (0 : Int32)), .val (.int a), .val (.int b)] [(.int (1 : Int32))])) (fun t kt => XS.goto X.here hx rfl (pc0 := 10) (pc' := 14) rfl (hb hby dE0_10) (by decide) (by decide) kt) ?_
    exact ret_b X hx hlk hret (hb hby dE0_14) (by decide) (by decide) (⟨by rw [hr]; simp [hc6_1] <;> rfl, N0, eT⟩)
  · refine Go.st (S' := T.setTop (mkF m 13 #[.val (.int (0 : Int32)), .val (.int a), .val (.int b)] [])) (fun t kt => XS.icmpYes X.here hx rfl (pc0 := 6) (pc' := 13) rfl (hb hby dE0_6) rfl (XT.ii_ne_t hc6_1) (by decide) (by decide) kt) ?_
    refine Go.st (S' := T.setTop (mkF m 14 #[.val (.int (0 : Int32)), .val (.int a), .val (.int b)] [(.int (0 : Int32))])) (fun t kt => XS.iconst X.here hx rfl (hb hby dE0_13) kt) ?_
    exact ret_b X hx hlk hret (hb hby dE0_14) (by decide) (by decide) (⟨by rw [hr]; simp [hc6_1] <;> rfl, N0, eT⟩)
theorem dH1_0 : decode prog_15_method_5_code 0 = .ok (.aload_n 0, 1) := by decide +kernel
theorem dH1_1 : decode prog_15_method_5_code 1 = .ok (.invokevirtual 45, 3) := by decide +kernel
theorem dH1_4 : decode prog_15_method_5_code 4 = .ok (.tableswitch 112 0 5 #[40, 52, 64, 76, 88, 100], 40) := by decide +kernel
theorem dH1_56 : decode prog_15_method_5_code 56 = .ok (.dload_n 1, 1) := by decide +kernel
theorem dH1_57 : decode prog_15_method_5_code 57 = .ok (.dload_n 3, 1) := by decide +kernel
theorem dH1_58 : decode prog_15_method_5_code 58 = .ok (.dcmp .l, 1) := by decide +kernel
theorem dH1_59 : decode prog_15_method_5_code 59 = .ok (.ifCond .eq 7, 3) := by decide +kernel
theorem dH1_62 : decode prog_15_method_5_code 62 = .ok (.iconst 1, 1) := by decide +kernel
theorem dH1_63 : decode prog_15_method_5_code 63 = .ok (.goto 4, 3) := by decide +kernel
theorem dH1_66 : decode prog_15_method_5_code 66 = .ok (.iconst 0, 1) := by decide +kernel
theorem dH1_67 : decode prog_15_method_5_code 67 = .ok (.ireturn, 1) := by decide +kernel
theorem ef_rmH1 (m : MethodId) (q : Addr) (da : UInt64) (db : UInt64) : entryFrame m #[(.ref q), (.double da), (.double db)] 5 = mkF m 0 #[.val (.ref q), .val (.double da), .second, .val (.double db), .second] [] := by first | exact own_entry rfl | (simp [entryFrame, mkF, argsToLocals, Value.category]; done) | rfl
set_option maxRecDepth 65536 in
set_option maxHeartbeats 40000000 in
theorem rmH1 (l : Launch) (Z : State) (a0 : Array Value) (hw : ∀ d ∈ tables_1, d.before a0 Z = true) (q : Addr) (da db : UInt64) (a b r : Int32) (h0 : Heap) (n0 : Nat) (Z0 : n0 ≤ h0.size) (E_q : Exa Z h0 q "com/example/sunder/sunder/query/Condition$Operator") (F_o : Fld Z h0 q "java/lang/Enum" "ordinal" "I" (.int (1 : Int32))) (hda : da = FP.i2d a) (hdb : db = FP.i2d b) (hr : r = if ¬ a = b then 1 else 0) :
    Pays l (⟨"com/example/sunder/sunder/query/Condition$Operator", "holds", "(DD)Z"⟩ : MethodName) prog_15_method_5_code 5 (some .boolean) ({ frames := 1, cells := 0, slots := 0, locals := 12 } : Room) Z #[(.ref q), (.double da), (.double db)] h0 (fun v h L => v = some (.int r) ∧ Fr n0 L ∧ h = h0) := by
  refine Pays.of (plainFor_of_name pn_com_example_sunder_sunder_query_Condition_Operator) ?_
  intro pP eE sS m below methM cC T hx hby hml hret hlk hZ hown hnm eT X
  replace hown : sS.vm.findClass "com/example/sunder/sunder/query/Condition$Operator" = some m.cls := hown
  have N0 := Fr.nil n0
  refine Go.cast (ef_rmH1 m q da db) ?_
  refine Go.st (S' := T.setTop (mkF m 1 #[.val (.ref q), .val (.double da), .second, .val (.double db), .second] [(.ref q)])) (fun t kt => XS.aloadN X.here hx rfl (hb hby dH1_0) rfl rfl kt) ?_
  refine Go.up X hx hZ hown (hw _ (List.mem_of_getElem? (i := 13) rfl)) (hw _ (List.mem_of_getElem? (i := 14) rfl)) (hw _ (List.mem_of_getElem? (i := 15) rfl)) (hw _ (List.mem_of_getElem? (i := 17) rfl)) (hw _ (List.mem_of_getElem? (i := 16) rfl)) (hw _ (List.mem_of_getElem? (i := 19) rfl)) (hw _ (List.mem_of_getElem? (i := 18) rfl)) (by decide) (b := q) (argsL := []) (rest := []) (rmOR l Z a0 hw q (1 : Int32) h0 n0 Z0 F_o) eT E_q rfl (by rw [hml]; rfl) pd___I rfl (hb hby dH1_1) 0 (Nat.le_refl _) (by decide) (by decide) (by decide) (by decide) ?_
  intro v1 T1 L1 X1 hQ1
  obtain ⟨hv1, N1', e1⟩ := hQ1
  subst hv1
  have N1 := Fr.app N0 N1'
  show Go pP eE below _ (T1.setTop (mkF m 4 #[.val (.ref q), .val (.double da), .second, .val (.double db), .second] [(.int (1 : Int32))]))
  refine Go.st (S' := T1.setTop (mkF m 56 #[.val (.ref q), .val (.double da), .second, .val (.double db), .second] [])) (fun t kt => XS.tswIn X1.here hx rfl (pc0 := 4) (pc' := 56) rfl (hb hby dH1_4) rfl (by decide) rfl (by decide) (by decide) kt) ?_
  refine Go.st (S' := T1.setTop (mkF m 57 #[.val (.ref q), .val (.double da), .second, .val (.double db), .second] [(.double da)])) (fun t kt => XS.dloadN X1.here hx rfl (hb hby dH1_56) rfl kt) ?_
  refine Go.st (S' := T1.setTop (mkF m 58 #[.val (.ref q), .val (.double da), .second, .val (.double db), .second] [(.double db), (.double da)])) (fun t kt => XS.dloadN X1.here hx rfl (hb hby dH1_57) rfl kt) ?_
  refine Go.st (S' := T1.setTop (mkF m 59 #[.val (.ref q), .val (.double da), .second, .val (.double db), .second] [(.int (cmpValue (FP.dcmp da db) .l))])) (fun t kt => XS.dcmpS X1.here hx rfl (hb hby dH1_58) rfl rfl kt) ?_
  by_cases hc59_2 : (cmpValue (FP.dcmp da db) .l) = 0
  · refine Go.st (S' := T1.setTop (mkF m 66 #[.val (.ref q), .val (.double da), .second, .val (.double db), .second] [])) (fun t kt => XS.ifYes X1.here hx rfl (pc0 := 59) (pc' := 66) rfl (hb hby dH1_59) rfl (XT.i0_eq_t hc59_2) (by decide) (by decide) kt) ?_
    refine Go.st (S' := T1.setTop (mkF m 67 #[.val (.ref q), .val (.double da), .second, .val (.double db), .second] [(.int (0 : Int32))])) (fun t kt => XS.iconst X1.here hx rfl (hb hby dH1_66) kt) ?_
    exact ret_b X1 hx hlk hret (hb hby dH1_67) (by decide) (by decide) (⟨by rw [own_eq0 hda hdb] at hc59_2; rw [hr]; simp [hc59_2] <;> rfl, N1, e1⟩)
  · refine Go.st (S' := T1.setTop (mkF m 62 #[.val (.ref q), .val (.double da), .second, .val (.double db), .second] [])) (fun t kt => XS.ifNo X1.here hx rfl (hb hby dH1_59) rfl (XT.i0_eq_f hc59_2) kt) ?_
    refine Go.st (S' := T1.setTop (mkF m 63 #[.val (.ref q), .val (.double da), .second, .val (.double db), .second] [(.int (1 : Int32))])) (fun t kt => XS.iconst X1.here hx rfl (hb hby dH1_62) kt) ?_
    refine Go.st (S' := T1.setTop (mkF m 67 #[.val (.ref q), .val (.double da), .second, .val (.double db), .second] [(.int (1 : Int32))])) (fun t kt => XS.goto X1.here hx rfl (pc0 := 63) (pc' := 67) rfl (hb hby dH1_63) (by decide) (by decide) kt) ?_
    exact ret_b X1 hx hlk hret (hb hby dH1_67) (by decide) (by decide) (⟨by rw [own_eq0 hda hdb] at hc59_2; rw [hr]; simp [hc59_2] <;> rfl, N1, e1⟩)
theorem dE1_0 : decode method_3_code 0 = .ok (.iload_n 0, 1) := by decide +kernel
theorem dE1_1 : decode method_3_code 1 = .ok (.ifCond .ne 14, 3) := by decide +kernel
theorem dE1_15 : decode method_3_code 15 = .ok (.iload_n 0, 1) := by decide +kernel
theorem dE1_16 : decode method_3_code 16 = .ok (.iconst 1, 1) := by decide +kernel
theorem dE1_17 : decode method_3_code 17 = .ok (.if_icmp .ne 14, 3) := by decide +kernel
theorem dE1_20 : decode method_3_code 20 = .ok (.iload_n 1, 1) := by decide +kernel
theorem dE1_21 : decode method_3_code 21 = .ok (.iload_n 2, 1) := by decide +kernel
theorem dE1_22 : decode method_3_code 22 = .ok (.if_icmp .eq 7, 3) := by decide +kernel
theorem dE1_25 : decode method_3_code 25 = .ok (.iconst 1, 1) := by decide +kernel
theorem dE1_26 : decode method_3_code 26 = .ok (.goto 4, 3) := by decide +kernel
theorem dE1_29 : decode method_3_code 29 = .ok (.iconst 0, 1) := by decide +kernel
theorem dE1_30 : decode method_3_code 30 = .ok (.ireturn, 1) := by decide +kernel
theorem ef_rmE1 (m : MethodId) (a : Int32) (b : Int32) : entryFrame m #[(.int (1 : Int32)), (.int a), (.int b)] 3 = mkF m 0 #[.val (.int (1 : Int32)), .val (.int a), .val (.int b)] [] := by first | exact own_entry rfl | (simp [entryFrame, mkF, argsToLocals, Value.category]; done) | rfl
set_option maxRecDepth 65536 in
set_option maxHeartbeats 40000000 in
theorem rmE1 (l : Launch) (Z : State) (a0 : Array Value) (hw : ∀ d ∈ tables_1, d.before a0 Z = true) (a b r : Int32) (h0 : Heap) (n0 : Nat) (Z0 : n0 ≤ h0.size) (hr : r = if ¬ a = b then 1 else 0) :
    Pays l (⟨"com/example/sunder/sunder/query/OperatorHoldsPinLaw", "expected", "(III)Z"⟩ : MethodName) method_3_code 3 (some .boolean) ({ frames := 0, cells := 0, slots := 0, locals := 0 } : Room) Z #[(.int (1 : Int32)), (.int a), (.int b)] h0 (fun v h L => v = some (.int r) ∧ Fr n0 L ∧ h = h0) := by
  refine Pays.of (plainFor_of_name pn_com_example_sunder_sunder_query_OperatorHoldsPinLaw) ?_
  intro pP eE sS m below methM cC T hx hby hml hret hlk hZ hown hnm eT X
  replace hown : sS.vm.findClass "com/example/sunder/sunder/query/OperatorHoldsPinLaw" = some m.cls := hown
  have N0 := Fr.nil n0
  refine Go.cast (ef_rmE1 m a b) ?_
  refine Go.st (S' := T.setTop (mkF m 1 #[.val (.int (1 : Int32)), .val (.int a), .val (.int b)] [(.int (1 : Int32))])) (fun t kt => XS.iloadN X.here hx rfl (hb hby dE1_0) rfl kt) ?_
  refine Go.st (S' := T.setTop (mkF m 15 #[.val (.int (1 : Int32)), .val (.int a), .val (.int b)] [])) (fun t kt => XS.ifYes X.here hx rfl (pc0 := 1) (pc' := 15) rfl (hb hby dE1_1) rfl (XT.i0_ne_t (by decide)) (by decide) (by decide) kt) ?_
  refine Go.st (S' := T.setTop (mkF m 16 #[.val (.int (1 : Int32)), .val (.int a), .val (.int b)] [(.int (1 : Int32))])) (fun t kt => XS.iloadN X.here hx rfl (hb hby dE1_15) rfl kt) ?_
  refine Go.st (S' := T.setTop (mkF m 17 #[.val (.int (1 : Int32)), .val (.int a), .val (.int b)] [(.int (1 : Int32)), (.int (1 : Int32))])) (fun t kt => XS.iconst X.here hx rfl (hb hby dE1_16) kt) ?_
  refine Go.st (S' := T.setTop (mkF m 20 #[.val (.int (1 : Int32)), .val (.int a), .val (.int b)] [])) (fun t kt => XS.icmpNo X.here hx rfl (hb hby dE1_17) rfl (XT.ii_ne_f (by decide)) kt) ?_
  refine Go.st (S' := T.setTop (mkF m 21 #[.val (.int (1 : Int32)), .val (.int a), .val (.int b)] [(.int a)])) (fun t kt => XS.iloadN X.here hx rfl (hb hby dE1_20) rfl kt) ?_
  refine Go.st (S' := T.setTop (mkF m 22 #[.val (.int (1 : Int32)), .val (.int a), .val (.int b)] [(.int b), (.int a)])) (fun t kt => XS.iloadN X.here hx rfl (hb hby dE1_21) rfl kt) ?_
  by_cases hc22_1 : a = b
  · refine Go.st (S' := T.setTop (mkF m 29 #[.val (.int (1 : Int32)), .val (.int a), .val (.int b)] [])) (fun t kt => XS.icmpYes X.here hx rfl (pc0 := 22) (pc' := 29) rfl (hb hby dE1_22) rfl (XT.ii_eq_t hc22_1) (by decide) (by decide) kt) ?_
    refine Go.st (S' := T.setTop (mkF m 30 #[.val (.int (1 : Int32)), .val (.int a), .val (.int b)] [(.int (0 : Int32))])) (fun t kt => XS.iconst X.here hx rfl (hb hby dE1_29) kt) ?_
    exact ret_b X hx hlk hret (hb hby dE1_30) (by decide) (by decide) (⟨by rw [hr]; simp [hc22_1] <;> rfl, N0, eT⟩)
  · refine Go.st (S' := T.setTop (mkF m 25 #[.val (.int (1 : Int32)), .val (.int a), .val (.int b)] [])) (fun t kt => XS.icmpNo X.here hx rfl (hb hby dE1_22) rfl (XT.ii_eq_f hc22_1) kt) ?_
    refine Go.st (S' := T.setTop (mkF m 26 #[.val (.int (1 : Int32)), .val (.int a), .val (.int b)] [(.int (1 : Int32))])) (fun t kt => XS.iconst X.here hx rfl (hb hby dE1_25) kt) ?_
    refine Go.st (S' := T.setTop (mkF m 30 #[.val (.int (1 : Int32)), .val (.int a), .val (.int b)] [(.int (1 : Int32))])) (fun t kt => XS.goto X.here hx rfl (pc0 := 26) (pc' := 30) rfl (hb hby dE1_26) (by decide) (by decide) kt) ?_
    exact ret_b X hx hlk hret (hb hby dE1_30) (by decide) (by decide) (⟨by rw [hr]; simp [hc22_1] <;> rfl, N0, eT⟩)
theorem dH2_0 : decode prog_15_method_5_code 0 = .ok (.aload_n 0, 1) := by decide +kernel
theorem dH2_1 : decode prog_15_method_5_code 1 = .ok (.invokevirtual 45, 3) := by decide +kernel
theorem dH2_4 : decode prog_15_method_5_code 4 = .ok (.tableswitch 112 0 5 #[40, 52, 64, 76, 88, 100], 40) := by decide +kernel
theorem dH2_68 : decode prog_15_method_5_code 68 = .ok (.dload_n 1, 1) := by decide +kernel
theorem dH2_69 : decode prog_15_method_5_code 69 = .ok (.dload_n 3, 1) := by decide +kernel
theorem dH2_70 : decode prog_15_method_5_code 70 = .ok (.dcmp .g, 1) := by decide +kernel
theorem dH2_71 : decode prog_15_method_5_code 71 = .ok (.ifCond .ge 7, 3) := by decide +kernel
theorem dH2_74 : decode prog_15_method_5_code 74 = .ok (.iconst 1, 1) := by decide +kernel
theorem dH2_75 : decode prog_15_method_5_code 75 = .ok (.goto 4, 3) := by decide +kernel
theorem dH2_78 : decode prog_15_method_5_code 78 = .ok (.iconst 0, 1) := by decide +kernel
theorem dH2_79 : decode prog_15_method_5_code 79 = .ok (.ireturn, 1) := by decide +kernel
theorem ef_rmH2 (m : MethodId) (q : Addr) (da : UInt64) (db : UInt64) : entryFrame m #[(.ref q), (.double da), (.double db)] 5 = mkF m 0 #[.val (.ref q), .val (.double da), .second, .val (.double db), .second] [] := by first | exact own_entry rfl | (simp [entryFrame, mkF, argsToLocals, Value.category]; done) | rfl
set_option maxRecDepth 65536 in
set_option maxHeartbeats 40000000 in
theorem rmH2 (l : Launch) (Z : State) (a0 : Array Value) (hw : ∀ d ∈ tables_1, d.before a0 Z = true) (q : Addr) (da db : UInt64) (a b r : Int32) (h0 : Heap) (n0 : Nat) (Z0 : n0 ≤ h0.size) (E_q : Exa Z h0 q "com/example/sunder/sunder/query/Condition$Operator") (F_o : Fld Z h0 q "java/lang/Enum" "ordinal" "I" (.int (2 : Int32))) (hda : da = FP.i2d a) (hdb : db = FP.i2d b) (hr : r = if a < b then 1 else 0) :
    Pays l (⟨"com/example/sunder/sunder/query/Condition$Operator", "holds", "(DD)Z"⟩ : MethodName) prog_15_method_5_code 5 (some .boolean) ({ frames := 1, cells := 0, slots := 0, locals := 12 } : Room) Z #[(.ref q), (.double da), (.double db)] h0 (fun v h L => v = some (.int r) ∧ Fr n0 L ∧ h = h0) := by
  refine Pays.of (plainFor_of_name pn_com_example_sunder_sunder_query_Condition_Operator) ?_
  intro pP eE sS m below methM cC T hx hby hml hret hlk hZ hown hnm eT X
  replace hown : sS.vm.findClass "com/example/sunder/sunder/query/Condition$Operator" = some m.cls := hown
  have N0 := Fr.nil n0
  refine Go.cast (ef_rmH2 m q da db) ?_
  refine Go.st (S' := T.setTop (mkF m 1 #[.val (.ref q), .val (.double da), .second, .val (.double db), .second] [(.ref q)])) (fun t kt => XS.aloadN X.here hx rfl (hb hby dH2_0) rfl rfl kt) ?_
  refine Go.up X hx hZ hown (hw _ (List.mem_of_getElem? (i := 13) rfl)) (hw _ (List.mem_of_getElem? (i := 14) rfl)) (hw _ (List.mem_of_getElem? (i := 15) rfl)) (hw _ (List.mem_of_getElem? (i := 17) rfl)) (hw _ (List.mem_of_getElem? (i := 16) rfl)) (hw _ (List.mem_of_getElem? (i := 19) rfl)) (hw _ (List.mem_of_getElem? (i := 18) rfl)) (by decide) (b := q) (argsL := []) (rest := []) (rmOR l Z a0 hw q (2 : Int32) h0 n0 Z0 F_o) eT E_q rfl (by rw [hml]; rfl) pd___I rfl (hb hby dH2_1) 0 (Nat.le_refl _) (by decide) (by decide) (by decide) (by decide) ?_
  intro v1 T1 L1 X1 hQ1
  obtain ⟨hv1, N1', e1⟩ := hQ1
  subst hv1
  have N1 := Fr.app N0 N1'
  show Go pP eE below _ (T1.setTop (mkF m 4 #[.val (.ref q), .val (.double da), .second, .val (.double db), .second] [(.int (2 : Int32))]))
  refine Go.st (S' := T1.setTop (mkF m 68 #[.val (.ref q), .val (.double da), .second, .val (.double db), .second] [])) (fun t kt => XS.tswIn X1.here hx rfl (pc0 := 4) (pc' := 68) rfl (hb hby dH2_4) rfl (by decide) rfl (by decide) (by decide) kt) ?_
  refine Go.st (S' := T1.setTop (mkF m 69 #[.val (.ref q), .val (.double da), .second, .val (.double db), .second] [(.double da)])) (fun t kt => XS.dloadN X1.here hx rfl (hb hby dH2_68) rfl kt) ?_
  refine Go.st (S' := T1.setTop (mkF m 70 #[.val (.ref q), .val (.double da), .second, .val (.double db), .second] [(.double db), (.double da)])) (fun t kt => XS.dloadN X1.here hx rfl (hb hby dH2_69) rfl kt) ?_
  refine Go.st (S' := T1.setTop (mkF m 71 #[.val (.ref q), .val (.double da), .second, .val (.double db), .second] [(.int (cmpValue (FP.dcmp da db) .g))])) (fun t kt => XS.dcmpS X1.here hx rfl (hb hby dH2_70) rfl rfl kt) ?_
  by_cases hc71_2 : (cmpValue (FP.dcmp da db) .g) < 0
  · refine Go.st (S' := T1.setTop (mkF m 74 #[.val (.ref q), .val (.double da), .second, .val (.double db), .second] [])) (fun t kt => XS.ifNo X1.here hx rfl (hb hby dH2_71) rfl (XT.i0_ge_f hc71_2) kt) ?_
    refine Go.st (S' := T1.setTop (mkF m 75 #[.val (.ref q), .val (.double da), .second, .val (.double db), .second] [(.int (1 : Int32))])) (fun t kt => XS.iconst X1.here hx rfl (hb hby dH2_74) kt) ?_
    refine Go.st (S' := T1.setTop (mkF m 79 #[.val (.ref q), .val (.double da), .second, .val (.double db), .second] [(.int (1 : Int32))])) (fun t kt => XS.goto X1.here hx rfl (pc0 := 75) (pc' := 79) rfl (hb hby dH2_75) (by decide) (by decide) kt) ?_
    exact ret_b X1 hx hlk hret (hb hby dH2_79) (by decide) (by decide) (⟨by rw [own_lt0 hda hdb] at hc71_2; rw [hr]; simp [hc71_2] <;> rfl, N1, e1⟩)
  · refine Go.st (S' := T1.setTop (mkF m 78 #[.val (.ref q), .val (.double da), .second, .val (.double db), .second] [])) (fun t kt => XS.ifYes X1.here hx rfl (pc0 := 71) (pc' := 78) rfl (hb hby dH2_71) rfl (XT.i0_ge_t hc71_2) (by decide) (by decide) kt) ?_
    refine Go.st (S' := T1.setTop (mkF m 79 #[.val (.ref q), .val (.double da), .second, .val (.double db), .second] [(.int (0 : Int32))])) (fun t kt => XS.iconst X1.here hx rfl (hb hby dH2_78) kt) ?_
    exact ret_b X1 hx hlk hret (hb hby dH2_79) (by decide) (by decide) (⟨by rw [own_lt0 hda hdb] at hc71_2; rw [hr]; simp [hc71_2] <;> rfl, N1, e1⟩)
theorem dE2_0 : decode method_3_code 0 = .ok (.iload_n 0, 1) := by decide +kernel
theorem dE2_1 : decode method_3_code 1 = .ok (.ifCond .ne 14, 3) := by decide +kernel
theorem dE2_15 : decode method_3_code 15 = .ok (.iload_n 0, 1) := by decide +kernel
theorem dE2_16 : decode method_3_code 16 = .ok (.iconst 1, 1) := by decide +kernel
theorem dE2_17 : decode method_3_code 17 = .ok (.if_icmp .ne 14, 3) := by decide +kernel
theorem dE2_31 : decode method_3_code 31 = .ok (.iload_n 0, 1) := by decide +kernel
theorem dE2_32 : decode method_3_code 32 = .ok (.iconst 2, 1) := by decide +kernel
theorem dE2_33 : decode method_3_code 33 = .ok (.if_icmp .ne 14, 3) := by decide +kernel
theorem dE2_36 : decode method_3_code 36 = .ok (.iload_n 1, 1) := by decide +kernel
theorem dE2_37 : decode method_3_code 37 = .ok (.iload_n 2, 1) := by decide +kernel
theorem dE2_38 : decode method_3_code 38 = .ok (.if_icmp .ge 7, 3) := by decide +kernel
theorem dE2_41 : decode method_3_code 41 = .ok (.iconst 1, 1) := by decide +kernel
theorem dE2_42 : decode method_3_code 42 = .ok (.goto 4, 3) := by decide +kernel
theorem dE2_45 : decode method_3_code 45 = .ok (.iconst 0, 1) := by decide +kernel
theorem dE2_46 : decode method_3_code 46 = .ok (.ireturn, 1) := by decide +kernel
theorem ef_rmE2 (m : MethodId) (a : Int32) (b : Int32) : entryFrame m #[(.int (2 : Int32)), (.int a), (.int b)] 3 = mkF m 0 #[.val (.int (2 : Int32)), .val (.int a), .val (.int b)] [] := by first | exact own_entry rfl | (simp [entryFrame, mkF, argsToLocals, Value.category]; done) | rfl
set_option maxRecDepth 65536 in
set_option maxHeartbeats 40000000 in
theorem rmE2 (l : Launch) (Z : State) (a0 : Array Value) (hw : ∀ d ∈ tables_1, d.before a0 Z = true) (a b r : Int32) (h0 : Heap) (n0 : Nat) (Z0 : n0 ≤ h0.size) (hr : r = if a < b then 1 else 0) :
    Pays l (⟨"com/example/sunder/sunder/query/OperatorHoldsPinLaw", "expected", "(III)Z"⟩ : MethodName) method_3_code 3 (some .boolean) ({ frames := 0, cells := 0, slots := 0, locals := 0 } : Room) Z #[(.int (2 : Int32)), (.int a), (.int b)] h0 (fun v h L => v = some (.int r) ∧ Fr n0 L ∧ h = h0) := by
  refine Pays.of (plainFor_of_name pn_com_example_sunder_sunder_query_OperatorHoldsPinLaw) ?_
  intro pP eE sS m below methM cC T hx hby hml hret hlk hZ hown hnm eT X
  replace hown : sS.vm.findClass "com/example/sunder/sunder/query/OperatorHoldsPinLaw" = some m.cls := hown
  have N0 := Fr.nil n0
  refine Go.cast (ef_rmE2 m a b) ?_
  refine Go.st (S' := T.setTop (mkF m 1 #[.val (.int (2 : Int32)), .val (.int a), .val (.int b)] [(.int (2 : Int32))])) (fun t kt => XS.iloadN X.here hx rfl (hb hby dE2_0) rfl kt) ?_
  refine Go.st (S' := T.setTop (mkF m 15 #[.val (.int (2 : Int32)), .val (.int a), .val (.int b)] [])) (fun t kt => XS.ifYes X.here hx rfl (pc0 := 1) (pc' := 15) rfl (hb hby dE2_1) rfl (XT.i0_ne_t (by decide)) (by decide) (by decide) kt) ?_
  refine Go.st (S' := T.setTop (mkF m 16 #[.val (.int (2 : Int32)), .val (.int a), .val (.int b)] [(.int (2 : Int32))])) (fun t kt => XS.iloadN X.here hx rfl (hb hby dE2_15) rfl kt) ?_
  refine Go.st (S' := T.setTop (mkF m 17 #[.val (.int (2 : Int32)), .val (.int a), .val (.int b)] [(.int (1 : Int32)), (.int (2 : Int32))])) (fun t kt => XS.iconst X.here hx rfl (hb hby dE2_16) kt) ?_
  refine Go.st (S' := T.setTop (mkF m 31 #[.val (.int (2 : Int32)), .val (.int a), .val (.int b)] [])) (fun t kt => XS.icmpYes X.here hx rfl (pc0 := 17) (pc' := 31) rfl (hb hby dE2_17) rfl (XT.ii_ne_t (by decide)) (by decide) (by decide) kt) ?_
  refine Go.st (S' := T.setTop (mkF m 32 #[.val (.int (2 : Int32)), .val (.int a), .val (.int b)] [(.int (2 : Int32))])) (fun t kt => XS.iloadN X.here hx rfl (hb hby dE2_31) rfl kt) ?_
  refine Go.st (S' := T.setTop (mkF m 33 #[.val (.int (2 : Int32)), .val (.int a), .val (.int b)] [(.int (2 : Int32)), (.int (2 : Int32))])) (fun t kt => XS.iconst X.here hx rfl (hb hby dE2_32) kt) ?_
  refine Go.st (S' := T.setTop (mkF m 36 #[.val (.int (2 : Int32)), .val (.int a), .val (.int b)] [])) (fun t kt => XS.icmpNo X.here hx rfl (hb hby dE2_33) rfl (XT.ii_ne_f (by decide)) kt) ?_
  refine Go.st (S' := T.setTop (mkF m 37 #[.val (.int (2 : Int32)), .val (.int a), .val (.int b)] [(.int a)])) (fun t kt => XS.iloadN X.here hx rfl (hb hby dE2_36) rfl kt) ?_
  refine Go.st (S' := T.setTop (mkF m 38 #[.val (.int (2 : Int32)), .val (.int a), .val (.int b)] [(.int b), (.int a)])) (fun t kt => XS.iloadN X.here hx rfl (hb hby dE2_37) rfl kt) ?_
  by_cases hc38_1 : a < b
  · refine Go.st (S' := T.setTop (mkF m 41 #[.val (.int (2 : Int32)), .val (.int a), .val (.int b)] [])) (fun t kt => XS.icmpNo X.here hx rfl (hb hby dE2_38) rfl (XT.ii_ge_f hc38_1) kt) ?_
    refine Go.st (S' := T.setTop (mkF m 42 #[.val (.int (2 : Int32)), .val (.int a), .val (.int b)] [(.int (1 : Int32))])) (fun t kt => XS.iconst X.here hx rfl (hb hby dE2_41) kt) ?_
    refine Go.st (S' := T.setTop (mkF m 46 #[.val (.int (2 : Int32)), .val (.int a), .val (.int b)] [(.int (1 : Int32))])) (fun t kt => XS.goto X.here hx rfl (pc0 := 42) (pc' := 46) rfl (hb hby dE2_42) (by decide) (by decide) kt) ?_
    exact ret_b X hx hlk hret (hb hby dE2_46) (by decide) (by decide) (⟨by rw [hr]; simp [hc38_1] <;> rfl, N0, eT⟩)
  · refine Go.st (S' := T.setTop (mkF m 45 #[.val (.int (2 : Int32)), .val (.int a), .val (.int b)] [])) (fun t kt => XS.icmpYes X.here hx rfl (pc0 := 38) (pc' := 45) rfl (hb hby dE2_38) rfl (XT.ii_ge_t hc38_1) (by decide) (by decide) kt) ?_
    refine Go.st (S' := T.setTop (mkF m 46 #[.val (.int (2 : Int32)), .val (.int a), .val (.int b)] [(.int (0 : Int32))])) (fun t kt => XS.iconst X.here hx rfl (hb hby dE2_45) kt) ?_
    exact ret_b X hx hlk hret (hb hby dE2_46) (by decide) (by decide) (⟨by rw [hr]; simp [hc38_1] <;> rfl, N0, eT⟩)
theorem dH3_0 : decode prog_15_method_5_code 0 = .ok (.aload_n 0, 1) := by decide +kernel
theorem dH3_1 : decode prog_15_method_5_code 1 = .ok (.invokevirtual 45, 3) := by decide +kernel
theorem dH3_4 : decode prog_15_method_5_code 4 = .ok (.tableswitch 112 0 5 #[40, 52, 64, 76, 88, 100], 40) := by decide +kernel
theorem dH3_80 : decode prog_15_method_5_code 80 = .ok (.dload_n 1, 1) := by decide +kernel
theorem dH3_81 : decode prog_15_method_5_code 81 = .ok (.dload_n 3, 1) := by decide +kernel
theorem dH3_82 : decode prog_15_method_5_code 82 = .ok (.dcmp .g, 1) := by decide +kernel
theorem dH3_83 : decode prog_15_method_5_code 83 = .ok (.ifCond .gt 7, 3) := by decide +kernel
theorem dH3_86 : decode prog_15_method_5_code 86 = .ok (.iconst 1, 1) := by decide +kernel
theorem dH3_87 : decode prog_15_method_5_code 87 = .ok (.goto 4, 3) := by decide +kernel
theorem dH3_90 : decode prog_15_method_5_code 90 = .ok (.iconst 0, 1) := by decide +kernel
theorem dH3_91 : decode prog_15_method_5_code 91 = .ok (.ireturn, 1) := by decide +kernel
theorem ef_rmH3 (m : MethodId) (q : Addr) (da : UInt64) (db : UInt64) : entryFrame m #[(.ref q), (.double da), (.double db)] 5 = mkF m 0 #[.val (.ref q), .val (.double da), .second, .val (.double db), .second] [] := by first | exact own_entry rfl | (simp [entryFrame, mkF, argsToLocals, Value.category]; done) | rfl
set_option maxRecDepth 65536 in
set_option maxHeartbeats 40000000 in
theorem rmH3 (l : Launch) (Z : State) (a0 : Array Value) (hw : ∀ d ∈ tables_1, d.before a0 Z = true) (q : Addr) (da db : UInt64) (a b r : Int32) (h0 : Heap) (n0 : Nat) (Z0 : n0 ≤ h0.size) (E_q : Exa Z h0 q "com/example/sunder/sunder/query/Condition$Operator") (F_o : Fld Z h0 q "java/lang/Enum" "ordinal" "I" (.int (3 : Int32))) (hda : da = FP.i2d a) (hdb : db = FP.i2d b) (hr : r = if ¬ b < a then 1 else 0) :
    Pays l (⟨"com/example/sunder/sunder/query/Condition$Operator", "holds", "(DD)Z"⟩ : MethodName) prog_15_method_5_code 5 (some .boolean) ({ frames := 1, cells := 0, slots := 0, locals := 12 } : Room) Z #[(.ref q), (.double da), (.double db)] h0 (fun v h L => v = some (.int r) ∧ Fr n0 L ∧ h = h0) := by
  refine Pays.of (plainFor_of_name pn_com_example_sunder_sunder_query_Condition_Operator) ?_
  intro pP eE sS m below methM cC T hx hby hml hret hlk hZ hown hnm eT X
  replace hown : sS.vm.findClass "com/example/sunder/sunder/query/Condition$Operator" = some m.cls := hown
  have N0 := Fr.nil n0
  refine Go.cast (ef_rmH3 m q da db) ?_
  refine Go.st (S' := T.setTop (mkF m 1 #[.val (.ref q), .val (.double da), .second, .val (.double db), .second] [(.ref q)])) (fun t kt => XS.aloadN X.here hx rfl (hb hby dH3_0) rfl rfl kt) ?_
  refine Go.up X hx hZ hown (hw _ (List.mem_of_getElem? (i := 13) rfl)) (hw _ (List.mem_of_getElem? (i := 14) rfl)) (hw _ (List.mem_of_getElem? (i := 15) rfl)) (hw _ (List.mem_of_getElem? (i := 17) rfl)) (hw _ (List.mem_of_getElem? (i := 16) rfl)) (hw _ (List.mem_of_getElem? (i := 19) rfl)) (hw _ (List.mem_of_getElem? (i := 18) rfl)) (by decide) (b := q) (argsL := []) (rest := []) (rmOR l Z a0 hw q (3 : Int32) h0 n0 Z0 F_o) eT E_q rfl (by rw [hml]; rfl) pd___I rfl (hb hby dH3_1) 0 (Nat.le_refl _) (by decide) (by decide) (by decide) (by decide) ?_
  intro v1 T1 L1 X1 hQ1
  obtain ⟨hv1, N1', e1⟩ := hQ1
  subst hv1
  have N1 := Fr.app N0 N1'
  show Go pP eE below _ (T1.setTop (mkF m 4 #[.val (.ref q), .val (.double da), .second, .val (.double db), .second] [(.int (3 : Int32))]))
  refine Go.st (S' := T1.setTop (mkF m 80 #[.val (.ref q), .val (.double da), .second, .val (.double db), .second] [])) (fun t kt => XS.tswIn X1.here hx rfl (pc0 := 4) (pc' := 80) rfl (hb hby dH3_4) rfl (by decide) rfl (by decide) (by decide) kt) ?_
  refine Go.st (S' := T1.setTop (mkF m 81 #[.val (.ref q), .val (.double da), .second, .val (.double db), .second] [(.double da)])) (fun t kt => XS.dloadN X1.here hx rfl (hb hby dH3_80) rfl kt) ?_
  refine Go.st (S' := T1.setTop (mkF m 82 #[.val (.ref q), .val (.double da), .second, .val (.double db), .second] [(.double db), (.double da)])) (fun t kt => XS.dloadN X1.here hx rfl (hb hby dH3_81) rfl kt) ?_
  refine Go.st (S' := T1.setTop (mkF m 83 #[.val (.ref q), .val (.double da), .second, .val (.double db), .second] [(.int (cmpValue (FP.dcmp da db) .g))])) (fun t kt => XS.dcmpS X1.here hx rfl (hb hby dH3_82) rfl rfl kt) ?_
  by_cases hc83_2 : 0 < (cmpValue (FP.dcmp da db) .g)
  · refine Go.st (S' := T1.setTop (mkF m 90 #[.val (.ref q), .val (.double da), .second, .val (.double db), .second] [])) (fun t kt => XS.ifYes X1.here hx rfl (pc0 := 83) (pc' := 90) rfl (hb hby dH3_83) rfl (XT.i0_gt_t hc83_2) (by decide) (by decide) kt) ?_
    refine Go.st (S' := T1.setTop (mkF m 91 #[.val (.ref q), .val (.double da), .second, .val (.double db), .second] [(.int (0 : Int32))])) (fun t kt => XS.iconst X1.here hx rfl (hb hby dH3_90) kt) ?_
    exact ret_b X1 hx hlk hret (hb hby dH3_91) (by decide) (by decide) (⟨by rw [own_gt0 hda hdb] at hc83_2; rw [hr]; simp [hc83_2] <;> rfl, N1, e1⟩)
  · refine Go.st (S' := T1.setTop (mkF m 86 #[.val (.ref q), .val (.double da), .second, .val (.double db), .second] [])) (fun t kt => XS.ifNo X1.here hx rfl (hb hby dH3_83) rfl (XT.i0_gt_f hc83_2) kt) ?_
    refine Go.st (S' := T1.setTop (mkF m 87 #[.val (.ref q), .val (.double da), .second, .val (.double db), .second] [(.int (1 : Int32))])) (fun t kt => XS.iconst X1.here hx rfl (hb hby dH3_86) kt) ?_
    refine Go.st (S' := T1.setTop (mkF m 91 #[.val (.ref q), .val (.double da), .second, .val (.double db), .second] [(.int (1 : Int32))])) (fun t kt => XS.goto X1.here hx rfl (pc0 := 87) (pc' := 91) rfl (hb hby dH3_87) (by decide) (by decide) kt) ?_
    exact ret_b X1 hx hlk hret (hb hby dH3_91) (by decide) (by decide) (⟨by rw [own_gt0 hda hdb] at hc83_2; rw [hr]; simp [hc83_2] <;> rfl, N1, e1⟩)
theorem dE3_0 : decode method_3_code 0 = .ok (.iload_n 0, 1) := by decide +kernel
theorem dE3_1 : decode method_3_code 1 = .ok (.ifCond .ne 14, 3) := by decide +kernel
theorem dE3_15 : decode method_3_code 15 = .ok (.iload_n 0, 1) := by decide +kernel
theorem dE3_16 : decode method_3_code 16 = .ok (.iconst 1, 1) := by decide +kernel
theorem dE3_17 : decode method_3_code 17 = .ok (.if_icmp .ne 14, 3) := by decide +kernel
theorem dE3_31 : decode method_3_code 31 = .ok (.iload_n 0, 1) := by decide +kernel
theorem dE3_32 : decode method_3_code 32 = .ok (.iconst 2, 1) := by decide +kernel
theorem dE3_33 : decode method_3_code 33 = .ok (.if_icmp .ne 14, 3) := by decide +kernel
theorem dE3_47 : decode method_3_code 47 = .ok (.iload_n 0, 1) := by decide +kernel
theorem dE3_48 : decode method_3_code 48 = .ok (.iconst 3, 1) := by decide +kernel
theorem dE3_49 : decode method_3_code 49 = .ok (.if_icmp .ne 14, 3) := by decide +kernel
theorem dE3_52 : decode method_3_code 52 = .ok (.iload_n 1, 1) := by decide +kernel
theorem dE3_53 : decode method_3_code 53 = .ok (.iload_n 2, 1) := by decide +kernel
theorem dE3_54 : decode method_3_code 54 = .ok (.if_icmp .gt 7, 3) := by decide +kernel
theorem dE3_57 : decode method_3_code 57 = .ok (.iconst 1, 1) := by decide +kernel
theorem dE3_58 : decode method_3_code 58 = .ok (.goto 4, 3) := by decide +kernel
theorem dE3_61 : decode method_3_code 61 = .ok (.iconst 0, 1) := by decide +kernel
theorem dE3_62 : decode method_3_code 62 = .ok (.ireturn, 1) := by decide +kernel
theorem ef_rmE3 (m : MethodId) (a : Int32) (b : Int32) : entryFrame m #[(.int (3 : Int32)), (.int a), (.int b)] 3 = mkF m 0 #[.val (.int (3 : Int32)), .val (.int a), .val (.int b)] [] := by first | exact own_entry rfl | (simp [entryFrame, mkF, argsToLocals, Value.category]; done) | rfl
set_option maxRecDepth 65536 in
set_option maxHeartbeats 40000000 in
theorem rmE3 (l : Launch) (Z : State) (a0 : Array Value) (hw : ∀ d ∈ tables_1, d.before a0 Z = true) (a b r : Int32) (h0 : Heap) (n0 : Nat) (Z0 : n0 ≤ h0.size) (hr : r = if ¬ b < a then 1 else 0) :
    Pays l (⟨"com/example/sunder/sunder/query/OperatorHoldsPinLaw", "expected", "(III)Z"⟩ : MethodName) method_3_code 3 (some .boolean) ({ frames := 0, cells := 0, slots := 0, locals := 0 } : Room) Z #[(.int (3 : Int32)), (.int a), (.int b)] h0 (fun v h L => v = some (.int r) ∧ Fr n0 L ∧ h = h0) := by
  refine Pays.of (plainFor_of_name pn_com_example_sunder_sunder_query_OperatorHoldsPinLaw) ?_
  intro pP eE sS m below methM cC T hx hby hml hret hlk hZ hown hnm eT X
  replace hown : sS.vm.findClass "com/example/sunder/sunder/query/OperatorHoldsPinLaw" = some m.cls := hown
  have N0 := Fr.nil n0
  refine Go.cast (ef_rmE3 m a b) ?_
  refine Go.st (S' := T.setTop (mkF m 1 #[.val (.int (3 : Int32)), .val (.int a), .val (.int b)] [(.int (3 : Int32))])) (fun t kt => XS.iloadN X.here hx rfl (hb hby dE3_0) rfl kt) ?_
  refine Go.st (S' := T.setTop (mkF m 15 #[.val (.int (3 : Int32)), .val (.int a), .val (.int b)] [])) (fun t kt => XS.ifYes X.here hx rfl (pc0 := 1) (pc' := 15) rfl (hb hby dE3_1) rfl (XT.i0_ne_t (by decide)) (by decide) (by decide) kt) ?_
  refine Go.st (S' := T.setTop (mkF m 16 #[.val (.int (3 : Int32)), .val (.int a), .val (.int b)] [(.int (3 : Int32))])) (fun t kt => XS.iloadN X.here hx rfl (hb hby dE3_15) rfl kt) ?_
  refine Go.st (S' := T.setTop (mkF m 17 #[.val (.int (3 : Int32)), .val (.int a), .val (.int b)] [(.int (1 : Int32)), (.int (3 : Int32))])) (fun t kt => XS.iconst X.here hx rfl (hb hby dE3_16) kt) ?_
  refine Go.st (S' := T.setTop (mkF m 31 #[.val (.int (3 : Int32)), .val (.int a), .val (.int b)] [])) (fun t kt => XS.icmpYes X.here hx rfl (pc0 := 17) (pc' := 31) rfl (hb hby dE3_17) rfl (XT.ii_ne_t (by decide)) (by decide) (by decide) kt) ?_
  refine Go.st (S' := T.setTop (mkF m 32 #[.val (.int (3 : Int32)), .val (.int a), .val (.int b)] [(.int (3 : Int32))])) (fun t kt => XS.iloadN X.here hx rfl (hb hby dE3_31) rfl kt) ?_
  refine Go.st (S' := T.setTop (mkF m 33 #[.val (.int (3 : Int32)), .val (.int a), .val (.int b)] [(.int (2 : Int32)), (.int (3 : Int32))])) (fun t kt => XS.iconst X.here hx rfl (hb hby dE3_32) kt) ?_
  refine Go.st (S' := T.setTop (mkF m 47 #[.val (.int (3 : Int32)), .val (.int a), .val (.int b)] [])) (fun t kt => XS.icmpYes X.here hx rfl (pc0 := 33) (pc' := 47) rfl (hb hby dE3_33) rfl (XT.ii_ne_t (by decide)) (by decide) (by decide) kt) ?_
  refine Go.st (S' := T.setTop (mkF m 48 #[.val (.int (3 : Int32)), .val (.int a), .val (.int b)] [(.int (3 : Int32))])) (fun t kt => XS.iloadN X.here hx rfl (hb hby dE3_47) rfl kt) ?_
  refine Go.st (S' := T.setTop (mkF m 49 #[.val (.int (3 : Int32)), .val (.int a), .val (.int b)] [(.int (3 : Int32)), (.int (3 : Int32))])) (fun t kt => XS.iconst X.here hx rfl (hb hby dE3_48) kt) ?_
  refine Go.st (S' := T.setTop (mkF m 52 #[.val (.int (3 : Int32)), .val (.int a), .val (.int b)] [])) (fun t kt => XS.icmpNo X.here hx rfl (hb hby dE3_49) rfl (XT.ii_ne_f (by decide)) kt) ?_
  refine Go.st (S' := T.setTop (mkF m 53 #[.val (.int (3 : Int32)), .val (.int a), .val (.int b)] [(.int a)])) (fun t kt => XS.iloadN X.here hx rfl (hb hby dE3_52) rfl kt) ?_
  refine Go.st (S' := T.setTop (mkF m 54 #[.val (.int (3 : Int32)), .val (.int a), .val (.int b)] [(.int b), (.int a)])) (fun t kt => XS.iloadN X.here hx rfl (hb hby dE3_53) rfl kt) ?_
  by_cases hc54_1 : b < a
  · refine Go.st (S' := T.setTop (mkF m 61 #[.val (.int (3 : Int32)), .val (.int a), .val (.int b)] [])) (fun t kt => XS.icmpYes X.here hx rfl (pc0 := 54) (pc' := 61) rfl (hb hby dE3_54) rfl (XT.ii_gt_t hc54_1) (by decide) (by decide) kt) ?_
    refine Go.st (S' := T.setTop (mkF m 62 #[.val (.int (3 : Int32)), .val (.int a), .val (.int b)] [(.int (0 : Int32))])) (fun t kt => XS.iconst X.here hx rfl (hb hby dE3_61) kt) ?_
    exact ret_b X hx hlk hret (hb hby dE3_62) (by decide) (by decide) (⟨by rw [hr]; simp [hc54_1] <;> rfl, N0, eT⟩)
  · refine Go.st (S' := T.setTop (mkF m 57 #[.val (.int (3 : Int32)), .val (.int a), .val (.int b)] [])) (fun t kt => XS.icmpNo X.here hx rfl (hb hby dE3_54) rfl (XT.ii_gt_f hc54_1) kt) ?_
    refine Go.st (S' := T.setTop (mkF m 58 #[.val (.int (3 : Int32)), .val (.int a), .val (.int b)] [(.int (1 : Int32))])) (fun t kt => XS.iconst X.here hx rfl (hb hby dE3_57) kt) ?_
    refine Go.st (S' := T.setTop (mkF m 62 #[.val (.int (3 : Int32)), .val (.int a), .val (.int b)] [(.int (1 : Int32))])) (fun t kt => XS.goto X.here hx rfl (pc0 := 58) (pc' := 62) rfl (hb hby dE3_58) (by decide) (by decide) kt) ?_
    exact ret_b X hx hlk hret (hb hby dE3_62) (by decide) (by decide) (⟨by rw [hr]; simp [hc54_1] <;> rfl, N0, eT⟩)
theorem dH4_0 : decode prog_15_method_5_code 0 = .ok (.aload_n 0, 1) := by decide +kernel
theorem dH4_1 : decode prog_15_method_5_code 1 = .ok (.invokevirtual 45, 3) := by decide +kernel
theorem dH4_4 : decode prog_15_method_5_code 4 = .ok (.tableswitch 112 0 5 #[40, 52, 64, 76, 88, 100], 40) := by decide +kernel
theorem dH4_92 : decode prog_15_method_5_code 92 = .ok (.dload_n 1, 1) := by decide +kernel
theorem dH4_93 : decode prog_15_method_5_code 93 = .ok (.dload_n 3, 1) := by decide +kernel
theorem dH4_94 : decode prog_15_method_5_code 94 = .ok (.dcmp .l, 1) := by decide +kernel
theorem dH4_95 : decode prog_15_method_5_code 95 = .ok (.ifCond .le 7, 3) := by decide +kernel
theorem dH4_98 : decode prog_15_method_5_code 98 = .ok (.iconst 1, 1) := by decide +kernel
theorem dH4_99 : decode prog_15_method_5_code 99 = .ok (.goto 4, 3) := by decide +kernel
theorem dH4_102 : decode prog_15_method_5_code 102 = .ok (.iconst 0, 1) := by decide +kernel
theorem dH4_103 : decode prog_15_method_5_code 103 = .ok (.ireturn, 1) := by decide +kernel
theorem ef_rmH4 (m : MethodId) (q : Addr) (da : UInt64) (db : UInt64) : entryFrame m #[(.ref q), (.double da), (.double db)] 5 = mkF m 0 #[.val (.ref q), .val (.double da), .second, .val (.double db), .second] [] := by first | exact own_entry rfl | (simp [entryFrame, mkF, argsToLocals, Value.category]; done) | rfl
set_option maxRecDepth 65536 in
set_option maxHeartbeats 40000000 in
theorem rmH4 (l : Launch) (Z : State) (a0 : Array Value) (hw : ∀ d ∈ tables_1, d.before a0 Z = true) (q : Addr) (da db : UInt64) (a b r : Int32) (h0 : Heap) (n0 : Nat) (Z0 : n0 ≤ h0.size) (E_q : Exa Z h0 q "com/example/sunder/sunder/query/Condition$Operator") (F_o : Fld Z h0 q "java/lang/Enum" "ordinal" "I" (.int (4 : Int32))) (hda : da = FP.i2d a) (hdb : db = FP.i2d b) (hr : r = if b < a then 1 else 0) :
    Pays l (⟨"com/example/sunder/sunder/query/Condition$Operator", "holds", "(DD)Z"⟩ : MethodName) prog_15_method_5_code 5 (some .boolean) ({ frames := 1, cells := 0, slots := 0, locals := 12 } : Room) Z #[(.ref q), (.double da), (.double db)] h0 (fun v h L => v = some (.int r) ∧ Fr n0 L ∧ h = h0) := by
  refine Pays.of (plainFor_of_name pn_com_example_sunder_sunder_query_Condition_Operator) ?_
  intro pP eE sS m below methM cC T hx hby hml hret hlk hZ hown hnm eT X
  replace hown : sS.vm.findClass "com/example/sunder/sunder/query/Condition$Operator" = some m.cls := hown
  have N0 := Fr.nil n0
  refine Go.cast (ef_rmH4 m q da db) ?_
  refine Go.st (S' := T.setTop (mkF m 1 #[.val (.ref q), .val (.double da), .second, .val (.double db), .second] [(.ref q)])) (fun t kt => XS.aloadN X.here hx rfl (hb hby dH4_0) rfl rfl kt) ?_
  refine Go.up X hx hZ hown (hw _ (List.mem_of_getElem? (i := 13) rfl)) (hw _ (List.mem_of_getElem? (i := 14) rfl)) (hw _ (List.mem_of_getElem? (i := 15) rfl)) (hw _ (List.mem_of_getElem? (i := 17) rfl)) (hw _ (List.mem_of_getElem? (i := 16) rfl)) (hw _ (List.mem_of_getElem? (i := 19) rfl)) (hw _ (List.mem_of_getElem? (i := 18) rfl)) (by decide) (b := q) (argsL := []) (rest := []) (rmOR l Z a0 hw q (4 : Int32) h0 n0 Z0 F_o) eT E_q rfl (by rw [hml]; rfl) pd___I rfl (hb hby dH4_1) 0 (Nat.le_refl _) (by decide) (by decide) (by decide) (by decide) ?_
  intro v1 T1 L1 X1 hQ1
  obtain ⟨hv1, N1', e1⟩ := hQ1
  subst hv1
  have N1 := Fr.app N0 N1'
  show Go pP eE below _ (T1.setTop (mkF m 4 #[.val (.ref q), .val (.double da), .second, .val (.double db), .second] [(.int (4 : Int32))]))
  refine Go.st (S' := T1.setTop (mkF m 92 #[.val (.ref q), .val (.double da), .second, .val (.double db), .second] [])) (fun t kt => XS.tswIn X1.here hx rfl (pc0 := 4) (pc' := 92) rfl (hb hby dH4_4) rfl (by decide) rfl (by decide) (by decide) kt) ?_
  refine Go.st (S' := T1.setTop (mkF m 93 #[.val (.ref q), .val (.double da), .second, .val (.double db), .second] [(.double da)])) (fun t kt => XS.dloadN X1.here hx rfl (hb hby dH4_92) rfl kt) ?_
  refine Go.st (S' := T1.setTop (mkF m 94 #[.val (.ref q), .val (.double da), .second, .val (.double db), .second] [(.double db), (.double da)])) (fun t kt => XS.dloadN X1.here hx rfl (hb hby dH4_93) rfl kt) ?_
  refine Go.st (S' := T1.setTop (mkF m 95 #[.val (.ref q), .val (.double da), .second, .val (.double db), .second] [(.int (cmpValue (FP.dcmp da db) .l))])) (fun t kt => XS.dcmpS X1.here hx rfl (hb hby dH4_94) rfl rfl kt) ?_
  by_cases hc95_2 : 0 < (cmpValue (FP.dcmp da db) .l)
  · refine Go.st (S' := T1.setTop (mkF m 98 #[.val (.ref q), .val (.double da), .second, .val (.double db), .second] [])) (fun t kt => XS.ifNo X1.here hx rfl (hb hby dH4_95) rfl (XT.i0_le_f hc95_2) kt) ?_
    refine Go.st (S' := T1.setTop (mkF m 99 #[.val (.ref q), .val (.double da), .second, .val (.double db), .second] [(.int (1 : Int32))])) (fun t kt => XS.iconst X1.here hx rfl (hb hby dH4_98) kt) ?_
    refine Go.st (S' := T1.setTop (mkF m 103 #[.val (.ref q), .val (.double da), .second, .val (.double db), .second] [(.int (1 : Int32))])) (fun t kt => XS.goto X1.here hx rfl (pc0 := 99) (pc' := 103) rfl (hb hby dH4_99) (by decide) (by decide) kt) ?_
    exact ret_b X1 hx hlk hret (hb hby dH4_103) (by decide) (by decide) (⟨by rw [own_gt0 hda hdb] at hc95_2; rw [hr]; simp [hc95_2] <;> rfl, N1, e1⟩)
  · refine Go.st (S' := T1.setTop (mkF m 102 #[.val (.ref q), .val (.double da), .second, .val (.double db), .second] [])) (fun t kt => XS.ifYes X1.here hx rfl (pc0 := 95) (pc' := 102) rfl (hb hby dH4_95) rfl (XT.i0_le_t hc95_2) (by decide) (by decide) kt) ?_
    refine Go.st (S' := T1.setTop (mkF m 103 #[.val (.ref q), .val (.double da), .second, .val (.double db), .second] [(.int (0 : Int32))])) (fun t kt => XS.iconst X1.here hx rfl (hb hby dH4_102) kt) ?_
    exact ret_b X1 hx hlk hret (hb hby dH4_103) (by decide) (by decide) (⟨by rw [own_gt0 hda hdb] at hc95_2; rw [hr]; simp [hc95_2] <;> rfl, N1, e1⟩)
theorem dE4_0 : decode method_3_code 0 = .ok (.iload_n 0, 1) := by decide +kernel
theorem dE4_1 : decode method_3_code 1 = .ok (.ifCond .ne 14, 3) := by decide +kernel
theorem dE4_15 : decode method_3_code 15 = .ok (.iload_n 0, 1) := by decide +kernel
theorem dE4_16 : decode method_3_code 16 = .ok (.iconst 1, 1) := by decide +kernel
theorem dE4_17 : decode method_3_code 17 = .ok (.if_icmp .ne 14, 3) := by decide +kernel
theorem dE4_31 : decode method_3_code 31 = .ok (.iload_n 0, 1) := by decide +kernel
theorem dE4_32 : decode method_3_code 32 = .ok (.iconst 2, 1) := by decide +kernel
theorem dE4_33 : decode method_3_code 33 = .ok (.if_icmp .ne 14, 3) := by decide +kernel
theorem dE4_47 : decode method_3_code 47 = .ok (.iload_n 0, 1) := by decide +kernel
theorem dE4_48 : decode method_3_code 48 = .ok (.iconst 3, 1) := by decide +kernel
theorem dE4_49 : decode method_3_code 49 = .ok (.if_icmp .ne 14, 3) := by decide +kernel
theorem dE4_63 : decode method_3_code 63 = .ok (.iload_n 0, 1) := by decide +kernel
theorem dE4_64 : decode method_3_code 64 = .ok (.iconst 4, 1) := by decide +kernel
theorem dE4_65 : decode method_3_code 65 = .ok (.if_icmp .ne 14, 3) := by decide +kernel
theorem dE4_68 : decode method_3_code 68 = .ok (.iload_n 1, 1) := by decide +kernel
theorem dE4_69 : decode method_3_code 69 = .ok (.iload_n 2, 1) := by decide +kernel
theorem dE4_70 : decode method_3_code 70 = .ok (.if_icmp .le 7, 3) := by decide +kernel
theorem dE4_73 : decode method_3_code 73 = .ok (.iconst 1, 1) := by decide +kernel
theorem dE4_74 : decode method_3_code 74 = .ok (.goto 4, 3) := by decide +kernel
theorem dE4_77 : decode method_3_code 77 = .ok (.iconst 0, 1) := by decide +kernel
theorem dE4_78 : decode method_3_code 78 = .ok (.ireturn, 1) := by decide +kernel
theorem ef_rmE4 (m : MethodId) (a : Int32) (b : Int32) : entryFrame m #[(.int (4 : Int32)), (.int a), (.int b)] 3 = mkF m 0 #[.val (.int (4 : Int32)), .val (.int a), .val (.int b)] [] := by first | exact own_entry rfl | (simp [entryFrame, mkF, argsToLocals, Value.category]; done) | rfl
set_option maxRecDepth 65536 in
set_option maxHeartbeats 40000000 in
theorem rmE4 (l : Launch) (Z : State) (a0 : Array Value) (hw : ∀ d ∈ tables_1, d.before a0 Z = true) (a b r : Int32) (h0 : Heap) (n0 : Nat) (Z0 : n0 ≤ h0.size) (hr : r = if b < a then 1 else 0) :
    Pays l (⟨"com/example/sunder/sunder/query/OperatorHoldsPinLaw", "expected", "(III)Z"⟩ : MethodName) method_3_code 3 (some .boolean) ({ frames := 0, cells := 0, slots := 0, locals := 0 } : Room) Z #[(.int (4 : Int32)), (.int a), (.int b)] h0 (fun v h L => v = some (.int r) ∧ Fr n0 L ∧ h = h0) := by
  refine Pays.of (plainFor_of_name pn_com_example_sunder_sunder_query_OperatorHoldsPinLaw) ?_
  intro pP eE sS m below methM cC T hx hby hml hret hlk hZ hown hnm eT X
  replace hown : sS.vm.findClass "com/example/sunder/sunder/query/OperatorHoldsPinLaw" = some m.cls := hown
  have N0 := Fr.nil n0
  refine Go.cast (ef_rmE4 m a b) ?_
  refine Go.st (S' := T.setTop (mkF m 1 #[.val (.int (4 : Int32)), .val (.int a), .val (.int b)] [(.int (4 : Int32))])) (fun t kt => XS.iloadN X.here hx rfl (hb hby dE4_0) rfl kt) ?_
  refine Go.st (S' := T.setTop (mkF m 15 #[.val (.int (4 : Int32)), .val (.int a), .val (.int b)] [])) (fun t kt => XS.ifYes X.here hx rfl (pc0 := 1) (pc' := 15) rfl (hb hby dE4_1) rfl (XT.i0_ne_t (by decide)) (by decide) (by decide) kt) ?_
  refine Go.st (S' := T.setTop (mkF m 16 #[.val (.int (4 : Int32)), .val (.int a), .val (.int b)] [(.int (4 : Int32))])) (fun t kt => XS.iloadN X.here hx rfl (hb hby dE4_15) rfl kt) ?_
  refine Go.st (S' := T.setTop (mkF m 17 #[.val (.int (4 : Int32)), .val (.int a), .val (.int b)] [(.int (1 : Int32)), (.int (4 : Int32))])) (fun t kt => XS.iconst X.here hx rfl (hb hby dE4_16) kt) ?_
  refine Go.st (S' := T.setTop (mkF m 31 #[.val (.int (4 : Int32)), .val (.int a), .val (.int b)] [])) (fun t kt => XS.icmpYes X.here hx rfl (pc0 := 17) (pc' := 31) rfl (hb hby dE4_17) rfl (XT.ii_ne_t (by decide)) (by decide) (by decide) kt) ?_
  refine Go.st (S' := T.setTop (mkF m 32 #[.val (.int (4 : Int32)), .val (.int a), .val (.int b)] [(.int (4 : Int32))])) (fun t kt => XS.iloadN X.here hx rfl (hb hby dE4_31) rfl kt) ?_
  refine Go.st (S' := T.setTop (mkF m 33 #[.val (.int (4 : Int32)), .val (.int a), .val (.int b)] [(.int (2 : Int32)), (.int (4 : Int32))])) (fun t kt => XS.iconst X.here hx rfl (hb hby dE4_32) kt) ?_
  refine Go.st (S' := T.setTop (mkF m 47 #[.val (.int (4 : Int32)), .val (.int a), .val (.int b)] [])) (fun t kt => XS.icmpYes X.here hx rfl (pc0 := 33) (pc' := 47) rfl (hb hby dE4_33) rfl (XT.ii_ne_t (by decide)) (by decide) (by decide) kt) ?_
  refine Go.st (S' := T.setTop (mkF m 48 #[.val (.int (4 : Int32)), .val (.int a), .val (.int b)] [(.int (4 : Int32))])) (fun t kt => XS.iloadN X.here hx rfl (hb hby dE4_47) rfl kt) ?_
  refine Go.st (S' := T.setTop (mkF m 49 #[.val (.int (4 : Int32)), .val (.int a), .val (.int b)] [(.int (3 : Int32)), (.int (4 : Int32))])) (fun t kt => XS.iconst X.here hx rfl (hb hby dE4_48) kt) ?_
  refine Go.st (S' := T.setTop (mkF m 63 #[.val (.int (4 : Int32)), .val (.int a), .val (.int b)] [])) (fun t kt => XS.icmpYes X.here hx rfl (pc0 := 49) (pc' := 63) rfl (hb hby dE4_49) rfl (XT.ii_ne_t (by decide)) (by decide) (by decide) kt) ?_
  refine Go.st (S' := T.setTop (mkF m 64 #[.val (.int (4 : Int32)), .val (.int a), .val (.int b)] [(.int (4 : Int32))])) (fun t kt => XS.iloadN X.here hx rfl (hb hby dE4_63) rfl kt) ?_
  refine Go.st (S' := T.setTop (mkF m 65 #[.val (.int (4 : Int32)), .val (.int a), .val (.int b)] [(.int (4 : Int32)), (.int (4 : Int32))])) (fun t kt => XS.iconst X.here hx rfl (hb hby dE4_64) kt) ?_
  refine Go.st (S' := T.setTop (mkF m 68 #[.val (.int (4 : Int32)), .val (.int a), .val (.int b)] [])) (fun t kt => XS.icmpNo X.here hx rfl (hb hby dE4_65) rfl (XT.ii_ne_f (by decide)) kt) ?_
  refine Go.st (S' := T.setTop (mkF m 69 #[.val (.int (4 : Int32)), .val (.int a), .val (.int b)] [(.int a)])) (fun t kt => XS.iloadN X.here hx rfl (hb hby dE4_68) rfl kt) ?_
  refine Go.st (S' := T.setTop (mkF m 70 #[.val (.int (4 : Int32)), .val (.int a), .val (.int b)] [(.int b), (.int a)])) (fun t kt => XS.iloadN X.here hx rfl (hb hby dE4_69) rfl kt) ?_
  by_cases hc70_1 : b < a
  · refine Go.st (S' := T.setTop (mkF m 73 #[.val (.int (4 : Int32)), .val (.int a), .val (.int b)] [])) (fun t kt => XS.icmpNo X.here hx rfl (hb hby dE4_70) rfl (XT.ii_le_f hc70_1) kt) ?_
    refine Go.st (S' := T.setTop (mkF m 74 #[.val (.int (4 : Int32)), .val (.int a), .val (.int b)] [(.int (1 : Int32))])) (fun t kt => XS.iconst X.here hx rfl (hb hby dE4_73) kt) ?_
    refine Go.st (S' := T.setTop (mkF m 78 #[.val (.int (4 : Int32)), .val (.int a), .val (.int b)] [(.int (1 : Int32))])) (fun t kt => XS.goto X.here hx rfl (pc0 := 74) (pc' := 78) rfl (hb hby dE4_74) (by decide) (by decide) kt) ?_
    exact ret_b X hx hlk hret (hb hby dE4_78) (by decide) (by decide) (⟨by rw [hr]; simp [hc70_1] <;> rfl, N0, eT⟩)
  · refine Go.st (S' := T.setTop (mkF m 77 #[.val (.int (4 : Int32)), .val (.int a), .val (.int b)] [])) (fun t kt => XS.icmpYes X.here hx rfl (pc0 := 70) (pc' := 77) rfl (hb hby dE4_70) rfl (XT.ii_le_t hc70_1) (by decide) (by decide) kt) ?_
    refine Go.st (S' := T.setTop (mkF m 78 #[.val (.int (4 : Int32)), .val (.int a), .val (.int b)] [(.int (0 : Int32))])) (fun t kt => XS.iconst X.here hx rfl (hb hby dE4_77) kt) ?_
    exact ret_b X hx hlk hret (hb hby dE4_78) (by decide) (by decide) (⟨by rw [hr]; simp [hc70_1] <;> rfl, N0, eT⟩)
theorem dH5_0 : decode prog_15_method_5_code 0 = .ok (.aload_n 0, 1) := by decide +kernel
theorem dH5_1 : decode prog_15_method_5_code 1 = .ok (.invokevirtual 45, 3) := by decide +kernel
theorem dH5_4 : decode prog_15_method_5_code 4 = .ok (.tableswitch 112 0 5 #[40, 52, 64, 76, 88, 100], 40) := by decide +kernel
theorem dH5_104 : decode prog_15_method_5_code 104 = .ok (.dload_n 1, 1) := by decide +kernel
theorem dH5_105 : decode prog_15_method_5_code 105 = .ok (.dload_n 3, 1) := by decide +kernel
theorem dH5_106 : decode prog_15_method_5_code 106 = .ok (.dcmp .l, 1) := by decide +kernel
theorem dH5_107 : decode prog_15_method_5_code 107 = .ok (.ifCond .lt 7, 3) := by decide +kernel
theorem dH5_110 : decode prog_15_method_5_code 110 = .ok (.iconst 1, 1) := by decide +kernel
theorem dH5_111 : decode prog_15_method_5_code 111 = .ok (.goto 4, 3) := by decide +kernel
theorem dH5_114 : decode prog_15_method_5_code 114 = .ok (.iconst 0, 1) := by decide +kernel
theorem dH5_115 : decode prog_15_method_5_code 115 = .ok (.ireturn, 1) := by decide +kernel
theorem ef_rmH5 (m : MethodId) (q : Addr) (da : UInt64) (db : UInt64) : entryFrame m #[(.ref q), (.double da), (.double db)] 5 = mkF m 0 #[.val (.ref q), .val (.double da), .second, .val (.double db), .second] [] := by first | exact own_entry rfl | (simp [entryFrame, mkF, argsToLocals, Value.category]; done) | rfl
set_option maxRecDepth 65536 in
set_option maxHeartbeats 40000000 in
theorem rmH5 (l : Launch) (Z : State) (a0 : Array Value) (hw : ∀ d ∈ tables_1, d.before a0 Z = true) (q : Addr) (da db : UInt64) (a b r : Int32) (h0 : Heap) (n0 : Nat) (Z0 : n0 ≤ h0.size) (E_q : Exa Z h0 q "com/example/sunder/sunder/query/Condition$Operator") (F_o : Fld Z h0 q "java/lang/Enum" "ordinal" "I" (.int (5 : Int32))) (hda : da = FP.i2d a) (hdb : db = FP.i2d b) (hr : r = if ¬ a < b then 1 else 0) :
    Pays l (⟨"com/example/sunder/sunder/query/Condition$Operator", "holds", "(DD)Z"⟩ : MethodName) prog_15_method_5_code 5 (some .boolean) ({ frames := 1, cells := 0, slots := 0, locals := 12 } : Room) Z #[(.ref q), (.double da), (.double db)] h0 (fun v h L => v = some (.int r) ∧ Fr n0 L ∧ h = h0) := by
  refine Pays.of (plainFor_of_name pn_com_example_sunder_sunder_query_Condition_Operator) ?_
  intro pP eE sS m below methM cC T hx hby hml hret hlk hZ hown hnm eT X
  replace hown : sS.vm.findClass "com/example/sunder/sunder/query/Condition$Operator" = some m.cls := hown
  have N0 := Fr.nil n0
  refine Go.cast (ef_rmH5 m q da db) ?_
  refine Go.st (S' := T.setTop (mkF m 1 #[.val (.ref q), .val (.double da), .second, .val (.double db), .second] [(.ref q)])) (fun t kt => XS.aloadN X.here hx rfl (hb hby dH5_0) rfl rfl kt) ?_
  refine Go.up X hx hZ hown (hw _ (List.mem_of_getElem? (i := 13) rfl)) (hw _ (List.mem_of_getElem? (i := 14) rfl)) (hw _ (List.mem_of_getElem? (i := 15) rfl)) (hw _ (List.mem_of_getElem? (i := 17) rfl)) (hw _ (List.mem_of_getElem? (i := 16) rfl)) (hw _ (List.mem_of_getElem? (i := 19) rfl)) (hw _ (List.mem_of_getElem? (i := 18) rfl)) (by decide) (b := q) (argsL := []) (rest := []) (rmOR l Z a0 hw q (5 : Int32) h0 n0 Z0 F_o) eT E_q rfl (by rw [hml]; rfl) pd___I rfl (hb hby dH5_1) 0 (Nat.le_refl _) (by decide) (by decide) (by decide) (by decide) ?_
  intro v1 T1 L1 X1 hQ1
  obtain ⟨hv1, N1', e1⟩ := hQ1
  subst hv1
  have N1 := Fr.app N0 N1'
  show Go pP eE below _ (T1.setTop (mkF m 4 #[.val (.ref q), .val (.double da), .second, .val (.double db), .second] [(.int (5 : Int32))]))
  refine Go.st (S' := T1.setTop (mkF m 104 #[.val (.ref q), .val (.double da), .second, .val (.double db), .second] [])) (fun t kt => XS.tswIn X1.here hx rfl (pc0 := 4) (pc' := 104) rfl (hb hby dH5_4) rfl (by decide) rfl (by decide) (by decide) kt) ?_
  refine Go.st (S' := T1.setTop (mkF m 105 #[.val (.ref q), .val (.double da), .second, .val (.double db), .second] [(.double da)])) (fun t kt => XS.dloadN X1.here hx rfl (hb hby dH5_104) rfl kt) ?_
  refine Go.st (S' := T1.setTop (mkF m 106 #[.val (.ref q), .val (.double da), .second, .val (.double db), .second] [(.double db), (.double da)])) (fun t kt => XS.dloadN X1.here hx rfl (hb hby dH5_105) rfl kt) ?_
  refine Go.st (S' := T1.setTop (mkF m 107 #[.val (.ref q), .val (.double da), .second, .val (.double db), .second] [(.int (cmpValue (FP.dcmp da db) .l))])) (fun t kt => XS.dcmpS X1.here hx rfl (hb hby dH5_106) rfl rfl kt) ?_
  by_cases hc107_2 : (cmpValue (FP.dcmp da db) .l) < 0
  · refine Go.st (S' := T1.setTop (mkF m 114 #[.val (.ref q), .val (.double da), .second, .val (.double db), .second] [])) (fun t kt => XS.ifYes X1.here hx rfl (pc0 := 107) (pc' := 114) rfl (hb hby dH5_107) rfl (XT.i0_lt_t hc107_2) (by decide) (by decide) kt) ?_
    refine Go.st (S' := T1.setTop (mkF m 115 #[.val (.ref q), .val (.double da), .second, .val (.double db), .second] [(.int (0 : Int32))])) (fun t kt => XS.iconst X1.here hx rfl (hb hby dH5_114) kt) ?_
    exact ret_b X1 hx hlk hret (hb hby dH5_115) (by decide) (by decide) (⟨by rw [own_lt0 hda hdb] at hc107_2; rw [hr]; simp [hc107_2] <;> rfl, N1, e1⟩)
  · refine Go.st (S' := T1.setTop (mkF m 110 #[.val (.ref q), .val (.double da), .second, .val (.double db), .second] [])) (fun t kt => XS.ifNo X1.here hx rfl (hb hby dH5_107) rfl (XT.i0_lt_f hc107_2) kt) ?_
    refine Go.st (S' := T1.setTop (mkF m 111 #[.val (.ref q), .val (.double da), .second, .val (.double db), .second] [(.int (1 : Int32))])) (fun t kt => XS.iconst X1.here hx rfl (hb hby dH5_110) kt) ?_
    refine Go.st (S' := T1.setTop (mkF m 115 #[.val (.ref q), .val (.double da), .second, .val (.double db), .second] [(.int (1 : Int32))])) (fun t kt => XS.goto X1.here hx rfl (pc0 := 111) (pc' := 115) rfl (hb hby dH5_111) (by decide) (by decide) kt) ?_
    exact ret_b X1 hx hlk hret (hb hby dH5_115) (by decide) (by decide) (⟨by rw [own_lt0 hda hdb] at hc107_2; rw [hr]; simp [hc107_2] <;> rfl, N1, e1⟩)
theorem dE5_0 : decode method_3_code 0 = .ok (.iload_n 0, 1) := by decide +kernel
theorem dE5_1 : decode method_3_code 1 = .ok (.ifCond .ne 14, 3) := by decide +kernel
theorem dE5_15 : decode method_3_code 15 = .ok (.iload_n 0, 1) := by decide +kernel
theorem dE5_16 : decode method_3_code 16 = .ok (.iconst 1, 1) := by decide +kernel
theorem dE5_17 : decode method_3_code 17 = .ok (.if_icmp .ne 14, 3) := by decide +kernel
theorem dE5_31 : decode method_3_code 31 = .ok (.iload_n 0, 1) := by decide +kernel
theorem dE5_32 : decode method_3_code 32 = .ok (.iconst 2, 1) := by decide +kernel
theorem dE5_33 : decode method_3_code 33 = .ok (.if_icmp .ne 14, 3) := by decide +kernel
theorem dE5_47 : decode method_3_code 47 = .ok (.iload_n 0, 1) := by decide +kernel
theorem dE5_48 : decode method_3_code 48 = .ok (.iconst 3, 1) := by decide +kernel
theorem dE5_49 : decode method_3_code 49 = .ok (.if_icmp .ne 14, 3) := by decide +kernel
theorem dE5_63 : decode method_3_code 63 = .ok (.iload_n 0, 1) := by decide +kernel
theorem dE5_64 : decode method_3_code 64 = .ok (.iconst 4, 1) := by decide +kernel
theorem dE5_65 : decode method_3_code 65 = .ok (.if_icmp .ne 14, 3) := by decide +kernel
theorem dE5_79 : decode method_3_code 79 = .ok (.iload_n 1, 1) := by decide +kernel
theorem dE5_80 : decode method_3_code 80 = .ok (.iload_n 2, 1) := by decide +kernel
theorem dE5_81 : decode method_3_code 81 = .ok (.if_icmp .lt 7, 3) := by decide +kernel
theorem dE5_84 : decode method_3_code 84 = .ok (.iconst 1, 1) := by decide +kernel
theorem dE5_85 : decode method_3_code 85 = .ok (.goto 4, 3) := by decide +kernel
theorem dE5_88 : decode method_3_code 88 = .ok (.iconst 0, 1) := by decide +kernel
theorem dE5_89 : decode method_3_code 89 = .ok (.ireturn, 1) := by decide +kernel
theorem ef_rmE5 (m : MethodId) (a : Int32) (b : Int32) : entryFrame m #[(.int (5 : Int32)), (.int a), (.int b)] 3 = mkF m 0 #[.val (.int (5 : Int32)), .val (.int a), .val (.int b)] [] := by first | exact own_entry rfl | (simp [entryFrame, mkF, argsToLocals, Value.category]; done) | rfl
set_option maxRecDepth 65536 in
set_option maxHeartbeats 40000000 in
theorem rmE5 (l : Launch) (Z : State) (a0 : Array Value) (hw : ∀ d ∈ tables_1, d.before a0 Z = true) (a b r : Int32) (h0 : Heap) (n0 : Nat) (Z0 : n0 ≤ h0.size) (hr : r = if ¬ a < b then 1 else 0) :
    Pays l (⟨"com/example/sunder/sunder/query/OperatorHoldsPinLaw", "expected", "(III)Z"⟩ : MethodName) method_3_code 3 (some .boolean) ({ frames := 0, cells := 0, slots := 0, locals := 0 } : Room) Z #[(.int (5 : Int32)), (.int a), (.int b)] h0 (fun v h L => v = some (.int r) ∧ Fr n0 L ∧ h = h0) := by
  refine Pays.of (plainFor_of_name pn_com_example_sunder_sunder_query_OperatorHoldsPinLaw) ?_
  intro pP eE sS m below methM cC T hx hby hml hret hlk hZ hown hnm eT X
  replace hown : sS.vm.findClass "com/example/sunder/sunder/query/OperatorHoldsPinLaw" = some m.cls := hown
  have N0 := Fr.nil n0
  refine Go.cast (ef_rmE5 m a b) ?_
  refine Go.st (S' := T.setTop (mkF m 1 #[.val (.int (5 : Int32)), .val (.int a), .val (.int b)] [(.int (5 : Int32))])) (fun t kt => XS.iloadN X.here hx rfl (hb hby dE5_0) rfl kt) ?_
  refine Go.st (S' := T.setTop (mkF m 15 #[.val (.int (5 : Int32)), .val (.int a), .val (.int b)] [])) (fun t kt => XS.ifYes X.here hx rfl (pc0 := 1) (pc' := 15) rfl (hb hby dE5_1) rfl (XT.i0_ne_t (by decide)) (by decide) (by decide) kt) ?_
  refine Go.st (S' := T.setTop (mkF m 16 #[.val (.int (5 : Int32)), .val (.int a), .val (.int b)] [(.int (5 : Int32))])) (fun t kt => XS.iloadN X.here hx rfl (hb hby dE5_15) rfl kt) ?_
  refine Go.st (S' := T.setTop (mkF m 17 #[.val (.int (5 : Int32)), .val (.int a), .val (.int b)] [(.int (1 : Int32)), (.int (5 : Int32))])) (fun t kt => XS.iconst X.here hx rfl (hb hby dE5_16) kt) ?_
  refine Go.st (S' := T.setTop (mkF m 31 #[.val (.int (5 : Int32)), .val (.int a), .val (.int b)] [])) (fun t kt => XS.icmpYes X.here hx rfl (pc0 := 17) (pc' := 31) rfl (hb hby dE5_17) rfl (XT.ii_ne_t (by decide)) (by decide) (by decide) kt) ?_
  refine Go.st (S' := T.setTop (mkF m 32 #[.val (.int (5 : Int32)), .val (.int a), .val (.int b)] [(.int (5 : Int32))])) (fun t kt => XS.iloadN X.here hx rfl (hb hby dE5_31) rfl kt) ?_
  refine Go.st (S' := T.setTop (mkF m 33 #[.val (.int (5 : Int32)), .val (.int a), .val (.int b)] [(.int (2 : Int32)), (.int (5 : Int32))])) (fun t kt => XS.iconst X.here hx rfl (hb hby dE5_32) kt) ?_
  refine Go.st (S' := T.setTop (mkF m 47 #[.val (.int (5 : Int32)), .val (.int a), .val (.int b)] [])) (fun t kt => XS.icmpYes X.here hx rfl (pc0 := 33) (pc' := 47) rfl (hb hby dE5_33) rfl (XT.ii_ne_t (by decide)) (by decide) (by decide) kt) ?_
  refine Go.st (S' := T.setTop (mkF m 48 #[.val (.int (5 : Int32)), .val (.int a), .val (.int b)] [(.int (5 : Int32))])) (fun t kt => XS.iloadN X.here hx rfl (hb hby dE5_47) rfl kt) ?_
  refine Go.st (S' := T.setTop (mkF m 49 #[.val (.int (5 : Int32)), .val (.int a), .val (.int b)] [(.int (3 : Int32)), (.int (5 : Int32))])) (fun t kt => XS.iconst X.here hx rfl (hb hby dE5_48) kt) ?_
  refine Go.st (S' := T.setTop (mkF m 63 #[.val (.int (5 : Int32)), .val (.int a), .val (.int b)] [])) (fun t kt => XS.icmpYes X.here hx rfl (pc0 := 49) (pc' := 63) rfl (hb hby dE5_49) rfl (XT.ii_ne_t (by decide)) (by decide) (by decide) kt) ?_
  refine Go.st (S' := T.setTop (mkF m 64 #[.val (.int (5 : Int32)), .val (.int a), .val (.int b)] [(.int (5 : Int32))])) (fun t kt => XS.iloadN X.here hx rfl (hb hby dE5_63) rfl kt) ?_
  refine Go.st (S' := T.setTop (mkF m 65 #[.val (.int (5 : Int32)), .val (.int a), .val (.int b)] [(.int (4 : Int32)), (.int (5 : Int32))])) (fun t kt => XS.iconst X.here hx rfl (hb hby dE5_64) kt) ?_
  refine Go.st (S' := T.setTop (mkF m 79 #[.val (.int (5 : Int32)), .val (.int a), .val (.int b)] [])) (fun t kt => XS.icmpYes X.here hx rfl (pc0 := 65) (pc' := 79) rfl (hb hby dE5_65) rfl (XT.ii_ne_t (by decide)) (by decide) (by decide) kt) ?_
  refine Go.st (S' := T.setTop (mkF m 80 #[.val (.int (5 : Int32)), .val (.int a), .val (.int b)] [(.int a)])) (fun t kt => XS.iloadN X.here hx rfl (hb hby dE5_79) rfl kt) ?_
  refine Go.st (S' := T.setTop (mkF m 81 #[.val (.int (5 : Int32)), .val (.int a), .val (.int b)] [(.int b), (.int a)])) (fun t kt => XS.iloadN X.here hx rfl (hb hby dE5_80) rfl kt) ?_
  by_cases hc81_1 : a < b
  · refine Go.st (S' := T.setTop (mkF m 88 #[.val (.int (5 : Int32)), .val (.int a), .val (.int b)] [])) (fun t kt => XS.icmpYes X.here hx rfl (pc0 := 81) (pc' := 88) rfl (hb hby dE5_81) rfl (XT.ii_lt_t hc81_1) (by decide) (by decide) kt) ?_
    refine Go.st (S' := T.setTop (mkF m 89 #[.val (.int (5 : Int32)), .val (.int a), .val (.int b)] [(.int (0 : Int32))])) (fun t kt => XS.iconst X.here hx rfl (hb hby dE5_88) kt) ?_
    exact ret_b X hx hlk hret (hb hby dE5_89) (by decide) (by decide) (⟨by rw [hr]; simp [hc81_1] <;> rfl, N0, eT⟩)
  · refine Go.st (S' := T.setTop (mkF m 84 #[.val (.int (5 : Int32)), .val (.int a), .val (.int b)] [])) (fun t kt => XS.icmpNo X.here hx rfl (hb hby dE5_81) rfl (XT.ii_lt_f hc81_1) kt) ?_
    refine Go.st (S' := T.setTop (mkF m 85 #[.val (.int (5 : Int32)), .val (.int a), .val (.int b)] [(.int (1 : Int32))])) (fun t kt => XS.iconst X.here hx rfl (hb hby dE5_84) kt) ?_
    refine Go.st (S' := T.setTop (mkF m 89 #[.val (.int (5 : Int32)), .val (.int a), .val (.int b)] [(.int (1 : Int32))])) (fun t kt => XS.goto X.here hx rfl (pc0 := 85) (pc' := 89) rfl (hb hby dE5_85) (by decide) (by decide) kt) ?_
    exact ret_b X hx hlk hret (hb hby dE5_89) (by decide) (by decide) (⟨by rw [hr]; simp [hc81_1] <;> rfl, N0, eT⟩)
theorem own_mod6 (x : Int32) : (x &&& (2147483647 : Int32)) % (6 : Int32) = (0 : Int32) ∨ (x &&& (2147483647 : Int32)) % (6 : Int32) = (1 : Int32) ∨ (x &&& (2147483647 : Int32)) % (6 : Int32) = (2 : Int32) ∨ (x &&& (2147483647 : Int32)) % (6 : Int32) = (3 : Int32) ∨ (x &&& (2147483647 : Int32)) % (6 : Int32) = (4 : Int32) ∨ (x &&& (2147483647 : Int32)) % (6 : Int32) = (5 : Int32) := by
  have h := c_and x (2147483647 : Int32) (by decide)
  generalize (x &&& (2147483647 : Int32)) = y at h
  have q := (c_irem y (6 : Int32) 6 rfl).1 h.1
  generalize y % (6 : Int32) = z at q
  have e : z.toInt = 0 ∨ z.toInt = 1 ∨ z.toInt = 2 ∨ z.toInt = 3 ∨ z.toInt = 4 ∨ z.toInt = 5 := by omega
  have k : ∀ w : Int32, z.toInt = w.toInt → z = w := fun w h => Int32.toInt_inj.mp h
  rcases e with e | e | e | e | e | e
  · exact (Or.inl (k 0 e))
  · exact (Or.inr (Or.inl (k 1 e)))
  · exact (Or.inr (Or.inr (Or.inl (k 2 e))))
  · exact (Or.inr (Or.inr (Or.inr (Or.inl (k 3 e)))))
  · exact (Or.inr (Or.inr (Or.inr (Or.inr (Or.inl (k 4 e))))))
  · exact (Or.inr (Or.inr (Or.inr (Or.inr (Or.inr (k 5 e))))))
theorem pd__I_Lcom_example_sunder_sunder_query_Condition_Operator_ : parseMethodDescriptor "(I)Lcom/example/sunder/sunder/query/Condition$Operator;" = some ⟨[.int], some (.object "com/example/sunder/sunder/query/Condition$Operator")⟩ := by decide +kernel
theorem pd__DD_Z : parseMethodDescriptor "(DD)Z" = some ⟨[.double, .double], some .boolean⟩ := by decide +kernel
theorem pd__III_Z : parseMethodDescriptor "(III)Z" = some ⟨[.int, .int, .int], some .boolean⟩ := by decide +kernel
theorem ef_rm0 (m : MethodId) (p0 : Int32) (p1 : Int32) (p2 : Int32) (p3 : Int32) : entryFrame m #[(.int p0), (.int p1), (.int p2), (.int p3)] maxLocals = mkF m 0 #[.val (.int p0), .val (.int p1), .val (.int p2), .val (.int p3), .unset, .unset, .unset, .unset, .unset] [] := by first | exact own_entry rfl | (simp [entryFrame, mkF, argsToLocals, Value.category, maxLocals]; done) | rfl
set_option maxRecDepth 65536 in
set_option maxHeartbeats 40000000 in
theorem rm0 (l : Launch) (Z : State) (a0 : Array Value) (hw : ∀ d ∈ tables_1, d.before a0 Z = true) (p0 p1 p2 p3 : Int32) (h0 : Heap) (n0 : Nat) (Z0 : n0 ≤ h0.size) (o0 o1 o2 o3 o4 o5 : Addr) (S_0 : Sta Z h0 "com/example/sunder/sunder/query/Condition$Operator" "EQUAL" "Lcom/example/sunder/sunder/query/Condition$Operator;" (.ref o0)) (S_1 : Sta Z h0 "com/example/sunder/sunder/query/Condition$Operator" "NOT_EQUAL" "Lcom/example/sunder/sunder/query/Condition$Operator;" (.ref o1)) (S_2 : Sta Z h0 "com/example/sunder/sunder/query/Condition$Operator" "LESS" "Lcom/example/sunder/sunder/query/Condition$Operator;" (.ref o2)) (S_3 : Sta Z h0 "com/example/sunder/sunder/query/Condition$Operator" "LESS_OR_EQUAL" "Lcom/example/sunder/sunder/query/Condition$Operator;" (.ref o3)) (S_4 : Sta Z h0 "com/example/sunder/sunder/query/Condition$Operator" "GREATER" "Lcom/example/sunder/sunder/query/Condition$Operator;" (.ref o4)) (S_5 : Sta Z h0 "com/example/sunder/sunder/query/Condition$Operator" "GREATER_OR_EQUAL" "Lcom/example/sunder/sunder/query/Condition$Operator;" (.ref o5)) (E_0 : Exa Z h0 o0 "com/example/sunder/sunder/query/Condition$Operator") (E_1 : Exa Z h0 o1 "com/example/sunder/sunder/query/Condition$Operator") (E_2 : Exa Z h0 o2 "com/example/sunder/sunder/query/Condition$Operator") (E_3 : Exa Z h0 o3 "com/example/sunder/sunder/query/Condition$Operator") (E_4 : Exa Z h0 o4 "com/example/sunder/sunder/query/Condition$Operator") (E_5 : Exa Z h0 o5 "com/example/sunder/sunder/query/Condition$Operator") (F_0 : Fld Z h0 o0 "java/lang/Enum" "ordinal" "I" (.int (0 : Int32))) (F_1 : Fld Z h0 o1 "java/lang/Enum" "ordinal" "I" (.int (1 : Int32))) (F_2 : Fld Z h0 o2 "java/lang/Enum" "ordinal" "I" (.int (2 : Int32))) (F_3 : Fld Z h0 o3 "java/lang/Enum" "ordinal" "I" (.int (3 : Int32))) (F_4 : Fld Z h0 o4 "java/lang/Enum" "ordinal" "I" (.int (4 : Int32))) (F_5 : Fld Z h0 o5 "java/lang/Enum" "ordinal" "I" (.int (5 : Int32))) :
    Pays l x code maxLocals ret room_1 Z #[(.int p0), (.int p1), (.int p2), (.int p3)] h0 (fun v h L => v = some (.int 1) ∧ Fr n0 L) := by
  refine Pays.of (plainFor_of_name pn_com_example_sunder_sunder_query_OperatorHoldsPinLaw) ?_
  intro pP eE sS m below methM cC T hx hby hml hret hlk hZ hown hnm eT X
  replace hown : sS.vm.findClass "com/example/sunder/sunder/query/OperatorHoldsPinLaw" = some m.cls := hown
  have N0 := Fr.nil n0
  refine Go.cast (ef_rm0 m p0 p1 p2 p3) ?_
  refine Go.st (S' := T.setTop (mkF m 1 #[.val (.int p0), .val (.int p1), .val (.int p2), .val (.int p3), .unset, .unset, .unset, .unset, .unset] [(.int p0)])) (fun t kt => XS.iloadN X.here hx rfl (hb hby at_0) rfl kt) ?_
  refine Go.st (S' := T.setTop (mkF m 3 #[.val (.int p0), .val (.int p1), .val (.int p2), .val (.int p3), .unset, .unset, .unset, .unset, .unset] [(.int (2147483647 : Int32)), (.int p0)])) (fun t kt => X.ldcI hx hown (mv hZ (hw _ (List.mem_of_getElem? (i := 0) rfl))) rfl (hb hby at_1) kt) ?_
  refine Go.st (S' := T.setTop (mkF m 4 #[.val (.int p0), .val (.int p1), .val (.int p2), .val (.int p3), .unset, .unset, .unset, .unset, .unset] [(.int (p0 &&& (2147483647 : Int32)))])) (fun t kt => XS.iand X.here hx rfl (hb hby at_3) rfl kt) ?_
  refine Go.st (S' := T.setTop (mkF m 6 #[.val (.int p0), .val (.int p1), .val (.int p2), .val (.int p3), .unset, .unset, .unset, .unset, .unset] [(.int (6 : Int32)), (.int (p0 &&& (2147483647 : Int32)))])) (fun t kt => XT.bipushV X.here hx rfl (6 : Int32) (hb hby at_4) (by decide) kt) ?_
  refine Go.st (S' := T.setTop (mkF m 7 #[.val (.int p0), .val (.int p1), .val (.int p2), .val (.int p3), .unset, .unset, .unset, .unset, .unset] [(.int ((p0 &&& (2147483647 : Int32)) % (6 : Int32)))])) (fun t kt => iremM X hx rfl (hb hby at_6) rfl (by decide) kt) ?_
  refine Go.st (S' := T.setTop (mkF m 9 #[.val (.int p0), .val (.int p1), .val (.int p2), .val (.int p3), .val (.int ((p0 &&& (2147483647 : Int32)) % (6 : Int32))), .unset, .unset, .unset, .unset] [])) (fun t kt => XS.istore X.here hx rfl (hb hby at_7) rfl rfl kt) ?_
  rcases own_mod6 p0 with hi0 | hi1 | hi2 | hi3 | hi4 | hi5
  · rw [hi0]
    show Go pP eE below _ (T.setTop (mkF m 9 #[.val (.int p0), .val (.int p1), .val (.int p2), .val (.int p3), .val (.int (0 : Int32)), .unset, .unset, .unset, .unset] []))
    refine Go.st (S' := T.setTop (mkF m 10 #[.val (.int p0), .val (.int p1), .val (.int p2), .val (.int p3), .val (.int (0 : Int32)), .unset, .unset, .unset, .unset] [(.int p3)])) (fun t kt => XS.iloadN X.here hx rfl (hb hby at_9) rfl kt) ?_
    refine Go.st (S' := T.setTop (mkF m 11 #[.val (.int p0), .val (.int p1), .val (.int p2), .val (.int p3), .val (.int (0 : Int32)), .unset, .unset, .unset, .unset] [(.int (1 : Int32)), (.int p3)])) (fun t kt => XS.iconst X.here hx rfl (hb hby at_10) kt) ?_
    refine Go.st (S' := T.setTop (mkF m 12 #[.val (.int p0), .val (.int p1), .val (.int p2), .val (.int p3), .val (.int (0 : Int32)), .unset, .unset, .unset, .unset] [(.int (p3 &&& (1 : Int32)))])) (fun t kt => XS.iand X.here hx rfl (hb hby at_11) rfl kt) ?_
    by_cases hc12_1 : (p3 &&& (1 : Int32)) = 0
    · refine Go.st (S' := T.setTop (mkF m 19 #[.val (.int p0), .val (.int p1), .val (.int p2), .val (.int p3), .val (.int (0 : Int32)), .unset, .unset, .unset, .unset] [])) (fun t kt => XS.ifYes X.here hx rfl (pc0 := 12) (pc' := 19) rfl (hb hby at_12) rfl (XT.i0_eq_t hc12_1) (by decide) (by decide) kt) ?_
      refine Go.st (S' := T.setTop (mkF m 20 #[.val (.int p0), .val (.int p1), .val (.int p2), .val (.int p3), .val (.int (0 : Int32)), .unset, .unset, .unset, .unset] [(.int (0 : Int32))])) (fun t kt => XS.iconst X.here hx rfl (hb hby at_19) kt) ?_
      refine Go.st (S' := T.setTop (mkF m 22 #[.val (.int p0), .val (.int p1), .val (.int p2), .val (.int p3), .val (.int (0 : Int32)), .val (.int (0 : Int32)), .unset, .unset, .unset] [])) (fun t kt => XS.istore X.here hx rfl (hb hby at_20) rfl rfl kt) ?_
      refine Go.st (S' := T.setTop (mkF m 24 #[.val (.int p0), .val (.int p1), .val (.int p2), .val (.int p3), .val (.int (0 : Int32)), .val (.int (0 : Int32)), .unset, .unset, .unset] [(.int (0 : Int32))])) (fun t kt => XS.iload X.here hx rfl (hb hby at_22) rfl kt) ?_
      refine Go.st (S' := T.setTop (mkF m 31 #[.val (.int p0), .val (.int p1), .val (.int p2), .val (.int p3), .val (.int (0 : Int32)), .val (.int (0 : Int32)), .unset, .unset, .unset] [])) (fun t kt => XS.ifYes X.here hx rfl (pc0 := 24) (pc' := 31) rfl (hb hby at_24) rfl (XT.i0_eq_t (by decide)) (by decide) (by decide) kt) ?_
      refine Go.st (S' := T.setTop (mkF m 32 #[.val (.int p0), .val (.int p1), .val (.int p2), .val (.int p3), .val (.int (0 : Int32)), .val (.int (0 : Int32)), .unset, .unset, .unset] [(.int p2)])) (fun t kt => XS.iloadN X.here hx rfl (hb hby at_31) rfl kt) ?_
      refine Go.st (S' := T.setTop (mkF m 34 #[.val (.int p0), .val (.int p1), .val (.int p2), .val (.int p3), .val (.int (0 : Int32)), .val (.int (0 : Int32)), .val (.int p2), .unset, .unset] [])) (fun t kt => XS.istore X.here hx rfl (hb hby at_32) rfl rfl kt) ?_
      refine Go.st (S' := T.setTop (mkF m 36 #[.val (.int p0), .val (.int p1), .val (.int p2), .val (.int p3), .val (.int (0 : Int32)), .val (.int (0 : Int32)), .val (.int p2), .unset, .unset] [(.int (0 : Int32))])) (fun t kt => XS.iload X.here hx rfl (hb hby at_34) rfl kt) ?_
      refine Go.stat X hx hZ hown (hw _ (List.mem_of_getElem? (i := 1) rfl)) (hw _ (List.mem_of_getElem? (i := 2) rfl)) (hw _ (List.mem_of_getElem? (i := 3) rfl)) (hw _ (List.mem_of_getElem? (i := 4) rfl)) (by decide) (argsL := [(.int (0 : Int32))]) (rest := []) (rmP0 l Z a0 hw o0 h0 n0 Z0 S_0) eT rfl (by rw [hml]; rfl) pd__I_Lcom_example_sunder_sunder_query_Condition_Operator_ rfl (hb hby at_36) 0 (Nat.le_refl _) (by decide) (by decide) (by decide) (by decide) ?_
      intro v2 T2 L2 X2 hQ2
      obtain ⟨hv2, N2', e2⟩ := hQ2
      subst hv2
      have N2 := Fr.app N0 N2'
      show Go pP eE below _ (T2.setTop (mkF m 39 #[.val (.int p0), .val (.int p1), .val (.int p2), .val (.int p3), .val (.int (0 : Int32)), .val (.int (0 : Int32)), .val (.int p2), .unset, .unset] [(.ref o0)]))
      refine Go.st (S' := T2.setTop (mkF m 41 #[.val (.int p0), .val (.int p1), .val (.int p2), .val (.int p3), .val (.int (0 : Int32)), .val (.int (0 : Int32)), .val (.int p2), .val (.ref o0), .unset] [])) (fun t kt => XS.astore X2.here hx rfl (hb hby at_39) rfl rfl rfl kt) ?_
      refine Go.st (S' := T2.setTop (mkF m 43 #[.val (.int p0), .val (.int p1), .val (.int p2), .val (.int p3), .val (.int (0 : Int32)), .val (.int (0 : Int32)), .val (.int p2), .val (.ref o0), .unset] [(.ref o0)])) (fun t kt => XS.aload X2.here hx rfl (hb hby at_41) rfl rfl kt) ?_
      refine Go.st (S' := T2.setTop (mkF m 44 #[.val (.int p0), .val (.int p1), .val (.int p2), .val (.int p3), .val (.int (0 : Int32)), .val (.int (0 : Int32)), .val (.int p2), .val (.ref o0), .unset] [(.int p1), (.ref o0)])) (fun t kt => XS.iloadN X2.here hx rfl (hb hby at_43) rfl kt) ?_
      refine Go.st (S' := T2.setTop (mkF m 45 #[.val (.int p0), .val (.int p1), .val (.int p2), .val (.int p3), .val (.int (0 : Int32)), .val (.int (0 : Int32)), .val (.int p2), .val (.ref o0), .unset] [(.double (FP.i2d p1)), (.ref o0)])) (fun t kt => XS.i2dS X2.here hx rfl (hb hby at_44) rfl rfl kt) ?_
      refine Go.st (S' := T2.setTop (mkF m 47 #[.val (.int p0), .val (.int p1), .val (.int p2), .val (.int p3), .val (.int (0 : Int32)), .val (.int (0 : Int32)), .val (.int p2), .val (.ref o0), .unset] [(.int p2), (.double (FP.i2d p1)), (.ref o0)])) (fun t kt => XS.iload X2.here hx rfl (hb hby at_45) rfl kt) ?_
      refine Go.st (S' := T2.setTop (mkF m 48 #[.val (.int p0), .val (.int p1), .val (.int p2), .val (.int p3), .val (.int (0 : Int32)), .val (.int (0 : Int32)), .val (.int p2), .val (.ref o0), .unset] [(.double (FP.i2d p2)), (.double (FP.i2d p1)), (.ref o0)])) (fun t kt => XS.i2dS X2.here hx rfl (hb hby at_47) rfl rfl kt) ?_
      obtain ⟨r, hr⟩ : ∃ r : Int32, r = if p1 = p2 then 1 else 0 := ⟨_, rfl⟩
      refine Go.virt X2 hx hZ hown (hw _ (List.mem_of_getElem? (i := 8) rfl)) (hw _ (List.mem_of_getElem? (i := 9) rfl)) (notFace_of_selects (mvT (args := #[]) hZ (hw _ (List.mem_of_getElem? (i := 11) rfl)))) (hw _ (List.mem_of_getElem? (i := 11) rfl)) (hw _ (List.mem_of_getElem? (i := 10) rfl)) (hw _ (List.mem_of_getElem? (i := 12) rfl)) (hw _ (List.mem_of_getElem? (i := 6) rfl)) (by decide) (b := o0) (argsL := [(.double (FP.i2d p1)), (.double (FP.i2d p2))]) (rest := []) (rmH0 l Z a0 hw o0 (FP.i2d p1) (FP.i2d p2) p1 p2 r h0 n0 Z0 E_0 F_0 rfl rfl hr) e2 E_0 rfl (by rw [hml]; rfl) pd__DD_Z rfl (hb hby at_48) 0 (Nat.le_refl _) (by decide) (by decide) (by decide) (by decide) ?_
      intro v3 T3 L3 X3 hQ3
      obtain ⟨hv3, N3', e3⟩ := hQ3
      subst hv3
      have N3 := Fr.app N2 N3'
      show Go pP eE below _ (T3.setTop (mkF m 51 #[.val (.int p0), .val (.int p1), .val (.int p2), .val (.int p3), .val (.int (0 : Int32)), .val (.int (0 : Int32)), .val (.int p2), .val (.ref o0), .unset] [(.int r)]))
      refine Go.st (S' := T3.setTop (mkF m 53 #[.val (.int p0), .val (.int p1), .val (.int p2), .val (.int p3), .val (.int (0 : Int32)), .val (.int (0 : Int32)), .val (.int p2), .val (.ref o0), .val (.int r)] [])) (fun t kt => XS.istore X3.here hx rfl (hb hby at_51) rfl rfl kt) ?_
      refine Go.st (S' := T3.setTop (mkF m 55 #[.val (.int p0), .val (.int p1), .val (.int p2), .val (.int p3), .val (.int (0 : Int32)), .val (.int (0 : Int32)), .val (.int p2), .val (.ref o0), .val (.int r)] [(.int r)])) (fun t kt => XS.iload X3.here hx rfl (hb hby at_53) rfl kt) ?_
      refine Go.st (S' := T3.setTop (mkF m 57 #[.val (.int p0), .val (.int p1), .val (.int p2), .val (.int p3), .val (.int (0 : Int32)), .val (.int (0 : Int32)), .val (.int p2), .val (.ref o0), .val (.int r)] [(.int (0 : Int32)), (.int r)])) (fun t kt => XS.iload X3.here hx rfl (hb hby at_55) rfl kt) ?_
      refine Go.st (S' := T3.setTop (mkF m 58 #[.val (.int p0), .val (.int p1), .val (.int p2), .val (.int p3), .val (.int (0 : Int32)), .val (.int (0 : Int32)), .val (.int p2), .val (.ref o0), .val (.int r)] [(.int p1), (.int (0 : Int32)), (.int r)])) (fun t kt => XS.iloadN X3.here hx rfl (hb hby at_57) rfl kt) ?_
      refine Go.st (S' := T3.setTop (mkF m 60 #[.val (.int p0), .val (.int p1), .val (.int p2), .val (.int p3), .val (.int (0 : Int32)), .val (.int (0 : Int32)), .val (.int p2), .val (.ref o0), .val (.int r)] [(.int p2), (.int p1), (.int (0 : Int32)), (.int r)])) (fun t kt => XS.iload X3.here hx rfl (hb hby at_58) rfl kt) ?_
      refine Go.stat X3 hx hZ hown (hw _ (List.mem_of_getElem? (i := 22) rfl)) (hw _ (List.mem_of_getElem? (i := 23) rfl)) (hw _ (List.mem_of_getElem? (i := 3) rfl)) (hw _ (List.mem_of_getElem? (i := 24) rfl)) (by decide) (argsL := [(.int (0 : Int32)), (.int p1), (.int p2)]) (rest := [(.int r)]) (rmE0 l Z a0 hw p1 p2 r h0 n0 Z0 hr) e3 rfl (by rw [hml]; rfl) pd__III_Z rfl (hb hby at_60) 1 (Nat.le_refl _) (by decide) (by decide) (by decide) (by decide) ?_
      intro v4 T4 L4 X4 hQ4
      obtain ⟨hv4, N4', e4⟩ := hQ4
      subst hv4
      have N4 := Fr.app N3 N4'
      show Go pP eE below _ (T4.setTop (mkF m 63 #[.val (.int p0), .val (.int p1), .val (.int p2), .val (.int p3), .val (.int (0 : Int32)), .val (.int (0 : Int32)), .val (.int p2), .val (.ref o0), .val (.int r)] [(.int r), (.int r)]))
      refine Go.st (S' := T4.setTop (mkF m 66 #[.val (.int p0), .val (.int p1), .val (.int p2), .val (.int p3), .val (.int (0 : Int32)), .val (.int (0 : Int32)), .val (.int p2), .val (.ref o0), .val (.int r)] [])) (fun t kt => XS.icmpNo X4.here hx rfl (hb hby at_63) rfl (XT.ii_ne_f rfl) kt) ?_
      refine Go.st (S' := T4.setTop (mkF m 67 #[.val (.int p0), .val (.int p1), .val (.int p2), .val (.int p3), .val (.int (0 : Int32)), .val (.int (0 : Int32)), .val (.int p2), .val (.ref o0), .val (.int r)] [(.int (1 : Int32))])) (fun t kt => XS.iconst X4.here hx rfl (hb hby at_66) kt) ?_
      refine Go.st (S' := T4.setTop (mkF m 71 #[.val (.int p0), .val (.int p1), .val (.int p2), .val (.int p3), .val (.int (0 : Int32)), .val (.int (0 : Int32)), .val (.int p2), .val (.ref o0), .val (.int r)] [(.int (1 : Int32))])) (fun t kt => XS.goto X4.here hx rfl (pc0 := 67) (pc' := 71) rfl (hb hby at_67) (by decide) (by decide) kt) ?_
      exact ret_b X4 hx hlk hret (hb hby at_71) (by decide) (by decide) (⟨rfl, N4⟩)
    · refine Go.st (S' := T.setTop (mkF m 15 #[.val (.int p0), .val (.int p1), .val (.int p2), .val (.int p3), .val (.int (0 : Int32)), .unset, .unset, .unset, .unset] [])) (fun t kt => XS.ifNo X.here hx rfl (hb hby at_12) rfl (XT.i0_eq_f hc12_1) kt) ?_
      refine Go.st (S' := T.setTop (mkF m 16 #[.val (.int p0), .val (.int p1), .val (.int p2), .val (.int p3), .val (.int (0 : Int32)), .unset, .unset, .unset, .unset] [(.int (1 : Int32))])) (fun t kt => XS.iconst X.here hx rfl (hb hby at_15) kt) ?_
      refine Go.st (S' := T.setTop (mkF m 20 #[.val (.int p0), .val (.int p1), .val (.int p2), .val (.int p3), .val (.int (0 : Int32)), .unset, .unset, .unset, .unset] [(.int (1 : Int32))])) (fun t kt => XS.goto X.here hx rfl (pc0 := 16) (pc' := 20) rfl (hb hby at_16) (by decide) (by decide) kt) ?_
      refine Go.st (S' := T.setTop (mkF m 22 #[.val (.int p0), .val (.int p1), .val (.int p2), .val (.int p3), .val (.int (0 : Int32)), .val (.int (1 : Int32)), .unset, .unset, .unset] [])) (fun t kt => XS.istore X.here hx rfl (hb hby at_20) rfl rfl kt) ?_
      refine Go.st (S' := T.setTop (mkF m 24 #[.val (.int p0), .val (.int p1), .val (.int p2), .val (.int p3), .val (.int (0 : Int32)), .val (.int (1 : Int32)), .unset, .unset, .unset] [(.int (1 : Int32))])) (fun t kt => XS.iload X.here hx rfl (hb hby at_22) rfl kt) ?_
      refine Go.st (S' := T.setTop (mkF m 27 #[.val (.int p0), .val (.int p1), .val (.int p2), .val (.int p3), .val (.int (0 : Int32)), .val (.int (1 : Int32)), .unset, .unset, .unset] [])) (fun t kt => XS.ifNo X.here hx rfl (hb hby at_24) rfl (XT.i0_eq_f (by decide)) kt) ?_
      refine Go.st (S' := T.setTop (mkF m 28 #[.val (.int p0), .val (.int p1), .val (.int p2), .val (.int p3), .val (.int (0 : Int32)), .val (.int (1 : Int32)), .unset, .unset, .unset] [(.int p1)])) (fun t kt => XS.iloadN X.here hx rfl (hb hby at_27) rfl kt) ?_
      refine Go.st (S' := T.setTop (mkF m 32 #[.val (.int p0), .val (.int p1), .val (.int p2), .val (.int p3), .val (.int (0 : Int32)), .val (.int (1 : Int32)), .unset, .unset, .unset] [(.int p1)])) (fun t kt => XS.goto X.here hx rfl (pc0 := 28) (pc' := 32) rfl (hb hby at_28) (by decide) (by decide) kt) ?_
      refine Go.st (S' := T.setTop (mkF m 34 #[.val (.int p0), .val (.int p1), .val (.int p2), .val (.int p3), .val (.int (0 : Int32)), .val (.int (1 : Int32)), .val (.int p1), .unset, .unset] [])) (fun t kt => XS.istore X.here hx rfl (hb hby at_32) rfl rfl kt) ?_
      refine Go.st (S' := T.setTop (mkF m 36 #[.val (.int p0), .val (.int p1), .val (.int p2), .val (.int p3), .val (.int (0 : Int32)), .val (.int (1 : Int32)), .val (.int p1), .unset, .unset] [(.int (0 : Int32))])) (fun t kt => XS.iload X.here hx rfl (hb hby at_34) rfl kt) ?_
      refine Go.stat X hx hZ hown (hw _ (List.mem_of_getElem? (i := 1) rfl)) (hw _ (List.mem_of_getElem? (i := 2) rfl)) (hw _ (List.mem_of_getElem? (i := 3) rfl)) (hw _ (List.mem_of_getElem? (i := 4) rfl)) (by decide) (argsL := [(.int (0 : Int32))]) (rest := []) (rmP0 l Z a0 hw o0 h0 n0 Z0 S_0) eT rfl (by rw [hml]; rfl) pd__I_Lcom_example_sunder_sunder_query_Condition_Operator_ rfl (hb hby at_36) 0 (Nat.le_refl _) (by decide) (by decide) (by decide) (by decide) ?_
      intro v5 T5 L5 X5 hQ5
      obtain ⟨hv5, N5', e5⟩ := hQ5
      subst hv5
      have N5 := Fr.app N0 N5'
      show Go pP eE below _ (T5.setTop (mkF m 39 #[.val (.int p0), .val (.int p1), .val (.int p2), .val (.int p3), .val (.int (0 : Int32)), .val (.int (1 : Int32)), .val (.int p1), .unset, .unset] [(.ref o0)]))
      refine Go.st (S' := T5.setTop (mkF m 41 #[.val (.int p0), .val (.int p1), .val (.int p2), .val (.int p3), .val (.int (0 : Int32)), .val (.int (1 : Int32)), .val (.int p1), .val (.ref o0), .unset] [])) (fun t kt => XS.astore X5.here hx rfl (hb hby at_39) rfl rfl rfl kt) ?_
      refine Go.st (S' := T5.setTop (mkF m 43 #[.val (.int p0), .val (.int p1), .val (.int p2), .val (.int p3), .val (.int (0 : Int32)), .val (.int (1 : Int32)), .val (.int p1), .val (.ref o0), .unset] [(.ref o0)])) (fun t kt => XS.aload X5.here hx rfl (hb hby at_41) rfl rfl kt) ?_
      refine Go.st (S' := T5.setTop (mkF m 44 #[.val (.int p0), .val (.int p1), .val (.int p2), .val (.int p3), .val (.int (0 : Int32)), .val (.int (1 : Int32)), .val (.int p1), .val (.ref o0), .unset] [(.int p1), (.ref o0)])) (fun t kt => XS.iloadN X5.here hx rfl (hb hby at_43) rfl kt) ?_
      refine Go.st (S' := T5.setTop (mkF m 45 #[.val (.int p0), .val (.int p1), .val (.int p2), .val (.int p3), .val (.int (0 : Int32)), .val (.int (1 : Int32)), .val (.int p1), .val (.ref o0), .unset] [(.double (FP.i2d p1)), (.ref o0)])) (fun t kt => XS.i2dS X5.here hx rfl (hb hby at_44) rfl rfl kt) ?_
      refine Go.st (S' := T5.setTop (mkF m 47 #[.val (.int p0), .val (.int p1), .val (.int p2), .val (.int p3), .val (.int (0 : Int32)), .val (.int (1 : Int32)), .val (.int p1), .val (.ref o0), .unset] [(.int p1), (.double (FP.i2d p1)), (.ref o0)])) (fun t kt => XS.iload X5.here hx rfl (hb hby at_45) rfl kt) ?_
      refine Go.st (S' := T5.setTop (mkF m 48 #[.val (.int p0), .val (.int p1), .val (.int p2), .val (.int p3), .val (.int (0 : Int32)), .val (.int (1 : Int32)), .val (.int p1), .val (.ref o0), .unset] [(.double (FP.i2d p1)), (.double (FP.i2d p1)), (.ref o0)])) (fun t kt => XS.i2dS X5.here hx rfl (hb hby at_47) rfl rfl kt) ?_
      obtain ⟨r, hr⟩ : ∃ r : Int32, r = if p1 = p1 then 1 else 0 := ⟨_, rfl⟩
      refine Go.virt X5 hx hZ hown (hw _ (List.mem_of_getElem? (i := 8) rfl)) (hw _ (List.mem_of_getElem? (i := 9) rfl)) (notFace_of_selects (mvT (args := #[]) hZ (hw _ (List.mem_of_getElem? (i := 11) rfl)))) (hw _ (List.mem_of_getElem? (i := 11) rfl)) (hw _ (List.mem_of_getElem? (i := 10) rfl)) (hw _ (List.mem_of_getElem? (i := 12) rfl)) (hw _ (List.mem_of_getElem? (i := 6) rfl)) (by decide) (b := o0) (argsL := [(.double (FP.i2d p1)), (.double (FP.i2d p1))]) (rest := []) (rmH0 l Z a0 hw o0 (FP.i2d p1) (FP.i2d p1) p1 p1 r h0 n0 Z0 E_0 F_0 rfl rfl hr) e5 E_0 rfl (by rw [hml]; rfl) pd__DD_Z rfl (hb hby at_48) 0 (Nat.le_refl _) (by decide) (by decide) (by decide) (by decide) ?_
      intro v6 T6 L6 X6 hQ6
      obtain ⟨hv6, N6', e6⟩ := hQ6
      subst hv6
      have N6 := Fr.app N5 N6'
      show Go pP eE below _ (T6.setTop (mkF m 51 #[.val (.int p0), .val (.int p1), .val (.int p2), .val (.int p3), .val (.int (0 : Int32)), .val (.int (1 : Int32)), .val (.int p1), .val (.ref o0), .unset] [(.int r)]))
      refine Go.st (S' := T6.setTop (mkF m 53 #[.val (.int p0), .val (.int p1), .val (.int p2), .val (.int p3), .val (.int (0 : Int32)), .val (.int (1 : Int32)), .val (.int p1), .val (.ref o0), .val (.int r)] [])) (fun t kt => XS.istore X6.here hx rfl (hb hby at_51) rfl rfl kt) ?_
      refine Go.st (S' := T6.setTop (mkF m 55 #[.val (.int p0), .val (.int p1), .val (.int p2), .val (.int p3), .val (.int (0 : Int32)), .val (.int (1 : Int32)), .val (.int p1), .val (.ref o0), .val (.int r)] [(.int r)])) (fun t kt => XS.iload X6.here hx rfl (hb hby at_53) rfl kt) ?_
      refine Go.st (S' := T6.setTop (mkF m 57 #[.val (.int p0), .val (.int p1), .val (.int p2), .val (.int p3), .val (.int (0 : Int32)), .val (.int (1 : Int32)), .val (.int p1), .val (.ref o0), .val (.int r)] [(.int (0 : Int32)), (.int r)])) (fun t kt => XS.iload X6.here hx rfl (hb hby at_55) rfl kt) ?_
      refine Go.st (S' := T6.setTop (mkF m 58 #[.val (.int p0), .val (.int p1), .val (.int p2), .val (.int p3), .val (.int (0 : Int32)), .val (.int (1 : Int32)), .val (.int p1), .val (.ref o0), .val (.int r)] [(.int p1), (.int (0 : Int32)), (.int r)])) (fun t kt => XS.iloadN X6.here hx rfl (hb hby at_57) rfl kt) ?_
      refine Go.st (S' := T6.setTop (mkF m 60 #[.val (.int p0), .val (.int p1), .val (.int p2), .val (.int p3), .val (.int (0 : Int32)), .val (.int (1 : Int32)), .val (.int p1), .val (.ref o0), .val (.int r)] [(.int p1), (.int p1), (.int (0 : Int32)), (.int r)])) (fun t kt => XS.iload X6.here hx rfl (hb hby at_58) rfl kt) ?_
      refine Go.stat X6 hx hZ hown (hw _ (List.mem_of_getElem? (i := 22) rfl)) (hw _ (List.mem_of_getElem? (i := 23) rfl)) (hw _ (List.mem_of_getElem? (i := 3) rfl)) (hw _ (List.mem_of_getElem? (i := 24) rfl)) (by decide) (argsL := [(.int (0 : Int32)), (.int p1), (.int p1)]) (rest := [(.int r)]) (rmE0 l Z a0 hw p1 p1 r h0 n0 Z0 hr) e6 rfl (by rw [hml]; rfl) pd__III_Z rfl (hb hby at_60) 1 (Nat.le_refl _) (by decide) (by decide) (by decide) (by decide) ?_
      intro v7 T7 L7 X7 hQ7
      obtain ⟨hv7, N7', e7⟩ := hQ7
      subst hv7
      have N7 := Fr.app N6 N7'
      show Go pP eE below _ (T7.setTop (mkF m 63 #[.val (.int p0), .val (.int p1), .val (.int p2), .val (.int p3), .val (.int (0 : Int32)), .val (.int (1 : Int32)), .val (.int p1), .val (.ref o0), .val (.int r)] [(.int r), (.int r)]))
      refine Go.st (S' := T7.setTop (mkF m 66 #[.val (.int p0), .val (.int p1), .val (.int p2), .val (.int p3), .val (.int (0 : Int32)), .val (.int (1 : Int32)), .val (.int p1), .val (.ref o0), .val (.int r)] [])) (fun t kt => XS.icmpNo X7.here hx rfl (hb hby at_63) rfl (XT.ii_ne_f rfl) kt) ?_
      refine Go.st (S' := T7.setTop (mkF m 67 #[.val (.int p0), .val (.int p1), .val (.int p2), .val (.int p3), .val (.int (0 : Int32)), .val (.int (1 : Int32)), .val (.int p1), .val (.ref o0), .val (.int r)] [(.int (1 : Int32))])) (fun t kt => XS.iconst X7.here hx rfl (hb hby at_66) kt) ?_
      refine Go.st (S' := T7.setTop (mkF m 71 #[.val (.int p0), .val (.int p1), .val (.int p2), .val (.int p3), .val (.int (0 : Int32)), .val (.int (1 : Int32)), .val (.int p1), .val (.ref o0), .val (.int r)] [(.int (1 : Int32))])) (fun t kt => XS.goto X7.here hx rfl (pc0 := 67) (pc' := 71) rfl (hb hby at_67) (by decide) (by decide) kt) ?_
      exact ret_b X7 hx hlk hret (hb hby at_71) (by decide) (by decide) (⟨rfl, N7⟩)
  · rw [hi1]
    show Go pP eE below _ (T.setTop (mkF m 9 #[.val (.int p0), .val (.int p1), .val (.int p2), .val (.int p3), .val (.int (1 : Int32)), .unset, .unset, .unset, .unset] []))
    refine Go.st (S' := T.setTop (mkF m 10 #[.val (.int p0), .val (.int p1), .val (.int p2), .val (.int p3), .val (.int (1 : Int32)), .unset, .unset, .unset, .unset] [(.int p3)])) (fun t kt => XS.iloadN X.here hx rfl (hb hby at_9) rfl kt) ?_
    refine Go.st (S' := T.setTop (mkF m 11 #[.val (.int p0), .val (.int p1), .val (.int p2), .val (.int p3), .val (.int (1 : Int32)), .unset, .unset, .unset, .unset] [(.int (1 : Int32)), (.int p3)])) (fun t kt => XS.iconst X.here hx rfl (hb hby at_10) kt) ?_
    refine Go.st (S' := T.setTop (mkF m 12 #[.val (.int p0), .val (.int p1), .val (.int p2), .val (.int p3), .val (.int (1 : Int32)), .unset, .unset, .unset, .unset] [(.int (p3 &&& (1 : Int32)))])) (fun t kt => XS.iand X.here hx rfl (hb hby at_11) rfl kt) ?_
    by_cases hc12_8 : (p3 &&& (1 : Int32)) = 0
    · refine Go.st (S' := T.setTop (mkF m 19 #[.val (.int p0), .val (.int p1), .val (.int p2), .val (.int p3), .val (.int (1 : Int32)), .unset, .unset, .unset, .unset] [])) (fun t kt => XS.ifYes X.here hx rfl (pc0 := 12) (pc' := 19) rfl (hb hby at_12) rfl (XT.i0_eq_t hc12_8) (by decide) (by decide) kt) ?_
      refine Go.st (S' := T.setTop (mkF m 20 #[.val (.int p0), .val (.int p1), .val (.int p2), .val (.int p3), .val (.int (1 : Int32)), .unset, .unset, .unset, .unset] [(.int (0 : Int32))])) (fun t kt => XS.iconst X.here hx rfl (hb hby at_19) kt) ?_
      refine Go.st (S' := T.setTop (mkF m 22 #[.val (.int p0), .val (.int p1), .val (.int p2), .val (.int p3), .val (.int (1 : Int32)), .val (.int (0 : Int32)), .unset, .unset, .unset] [])) (fun t kt => XS.istore X.here hx rfl (hb hby at_20) rfl rfl kt) ?_
      refine Go.st (S' := T.setTop (mkF m 24 #[.val (.int p0), .val (.int p1), .val (.int p2), .val (.int p3), .val (.int (1 : Int32)), .val (.int (0 : Int32)), .unset, .unset, .unset] [(.int (0 : Int32))])) (fun t kt => XS.iload X.here hx rfl (hb hby at_22) rfl kt) ?_
      refine Go.st (S' := T.setTop (mkF m 31 #[.val (.int p0), .val (.int p1), .val (.int p2), .val (.int p3), .val (.int (1 : Int32)), .val (.int (0 : Int32)), .unset, .unset, .unset] [])) (fun t kt => XS.ifYes X.here hx rfl (pc0 := 24) (pc' := 31) rfl (hb hby at_24) rfl (XT.i0_eq_t (by decide)) (by decide) (by decide) kt) ?_
      refine Go.st (S' := T.setTop (mkF m 32 #[.val (.int p0), .val (.int p1), .val (.int p2), .val (.int p3), .val (.int (1 : Int32)), .val (.int (0 : Int32)), .unset, .unset, .unset] [(.int p2)])) (fun t kt => XS.iloadN X.here hx rfl (hb hby at_31) rfl kt) ?_
      refine Go.st (S' := T.setTop (mkF m 34 #[.val (.int p0), .val (.int p1), .val (.int p2), .val (.int p3), .val (.int (1 : Int32)), .val (.int (0 : Int32)), .val (.int p2), .unset, .unset] [])) (fun t kt => XS.istore X.here hx rfl (hb hby at_32) rfl rfl kt) ?_
      refine Go.st (S' := T.setTop (mkF m 36 #[.val (.int p0), .val (.int p1), .val (.int p2), .val (.int p3), .val (.int (1 : Int32)), .val (.int (0 : Int32)), .val (.int p2), .unset, .unset] [(.int (1 : Int32))])) (fun t kt => XS.iload X.here hx rfl (hb hby at_34) rfl kt) ?_
      refine Go.stat X hx hZ hown (hw _ (List.mem_of_getElem? (i := 1) rfl)) (hw _ (List.mem_of_getElem? (i := 2) rfl)) (hw _ (List.mem_of_getElem? (i := 3) rfl)) (hw _ (List.mem_of_getElem? (i := 4) rfl)) (by decide) (argsL := [(.int (1 : Int32))]) (rest := []) (rmP1 l Z a0 hw o1 h0 n0 Z0 S_1) eT rfl (by rw [hml]; rfl) pd__I_Lcom_example_sunder_sunder_query_Condition_Operator_ rfl (hb hby at_36) 0 (Nat.le_refl _) (by decide) (by decide) (by decide) (by decide) ?_
      intro v9 T9 L9 X9 hQ9
      obtain ⟨hv9, N9', e9⟩ := hQ9
      subst hv9
      have N9 := Fr.app N0 N9'
      show Go pP eE below _ (T9.setTop (mkF m 39 #[.val (.int p0), .val (.int p1), .val (.int p2), .val (.int p3), .val (.int (1 : Int32)), .val (.int (0 : Int32)), .val (.int p2), .unset, .unset] [(.ref o1)]))
      refine Go.st (S' := T9.setTop (mkF m 41 #[.val (.int p0), .val (.int p1), .val (.int p2), .val (.int p3), .val (.int (1 : Int32)), .val (.int (0 : Int32)), .val (.int p2), .val (.ref o1), .unset] [])) (fun t kt => XS.astore X9.here hx rfl (hb hby at_39) rfl rfl rfl kt) ?_
      refine Go.st (S' := T9.setTop (mkF m 43 #[.val (.int p0), .val (.int p1), .val (.int p2), .val (.int p3), .val (.int (1 : Int32)), .val (.int (0 : Int32)), .val (.int p2), .val (.ref o1), .unset] [(.ref o1)])) (fun t kt => XS.aload X9.here hx rfl (hb hby at_41) rfl rfl kt) ?_
      refine Go.st (S' := T9.setTop (mkF m 44 #[.val (.int p0), .val (.int p1), .val (.int p2), .val (.int p3), .val (.int (1 : Int32)), .val (.int (0 : Int32)), .val (.int p2), .val (.ref o1), .unset] [(.int p1), (.ref o1)])) (fun t kt => XS.iloadN X9.here hx rfl (hb hby at_43) rfl kt) ?_
      refine Go.st (S' := T9.setTop (mkF m 45 #[.val (.int p0), .val (.int p1), .val (.int p2), .val (.int p3), .val (.int (1 : Int32)), .val (.int (0 : Int32)), .val (.int p2), .val (.ref o1), .unset] [(.double (FP.i2d p1)), (.ref o1)])) (fun t kt => XS.i2dS X9.here hx rfl (hb hby at_44) rfl rfl kt) ?_
      refine Go.st (S' := T9.setTop (mkF m 47 #[.val (.int p0), .val (.int p1), .val (.int p2), .val (.int p3), .val (.int (1 : Int32)), .val (.int (0 : Int32)), .val (.int p2), .val (.ref o1), .unset] [(.int p2), (.double (FP.i2d p1)), (.ref o1)])) (fun t kt => XS.iload X9.here hx rfl (hb hby at_45) rfl kt) ?_
      refine Go.st (S' := T9.setTop (mkF m 48 #[.val (.int p0), .val (.int p1), .val (.int p2), .val (.int p3), .val (.int (1 : Int32)), .val (.int (0 : Int32)), .val (.int p2), .val (.ref o1), .unset] [(.double (FP.i2d p2)), (.double (FP.i2d p1)), (.ref o1)])) (fun t kt => XS.i2dS X9.here hx rfl (hb hby at_47) rfl rfl kt) ?_
      obtain ⟨r, hr⟩ : ∃ r : Int32, r = if ¬ p1 = p2 then 1 else 0 := ⟨_, rfl⟩
      refine Go.virt X9 hx hZ hown (hw _ (List.mem_of_getElem? (i := 8) rfl)) (hw _ (List.mem_of_getElem? (i := 9) rfl)) (notFace_of_selects (mvT (args := #[]) hZ (hw _ (List.mem_of_getElem? (i := 11) rfl)))) (hw _ (List.mem_of_getElem? (i := 11) rfl)) (hw _ (List.mem_of_getElem? (i := 10) rfl)) (hw _ (List.mem_of_getElem? (i := 12) rfl)) (hw _ (List.mem_of_getElem? (i := 6) rfl)) (by decide) (b := o1) (argsL := [(.double (FP.i2d p1)), (.double (FP.i2d p2))]) (rest := []) (rmH1 l Z a0 hw o1 (FP.i2d p1) (FP.i2d p2) p1 p2 r h0 n0 Z0 E_1 F_1 rfl rfl hr) e9 E_1 rfl (by rw [hml]; rfl) pd__DD_Z rfl (hb hby at_48) 0 (Nat.le_refl _) (by decide) (by decide) (by decide) (by decide) ?_
      intro v10 T10 L10 X10 hQ10
      obtain ⟨hv10, N10', e10⟩ := hQ10
      subst hv10
      have N10 := Fr.app N9 N10'
      show Go pP eE below _ (T10.setTop (mkF m 51 #[.val (.int p0), .val (.int p1), .val (.int p2), .val (.int p3), .val (.int (1 : Int32)), .val (.int (0 : Int32)), .val (.int p2), .val (.ref o1), .unset] [(.int r)]))
      refine Go.st (S' := T10.setTop (mkF m 53 #[.val (.int p0), .val (.int p1), .val (.int p2), .val (.int p3), .val (.int (1 : Int32)), .val (.int (0 : Int32)), .val (.int p2), .val (.ref o1), .val (.int r)] [])) (fun t kt => XS.istore X10.here hx rfl (hb hby at_51) rfl rfl kt) ?_
      refine Go.st (S' := T10.setTop (mkF m 55 #[.val (.int p0), .val (.int p1), .val (.int p2), .val (.int p3), .val (.int (1 : Int32)), .val (.int (0 : Int32)), .val (.int p2), .val (.ref o1), .val (.int r)] [(.int r)])) (fun t kt => XS.iload X10.here hx rfl (hb hby at_53) rfl kt) ?_
      refine Go.st (S' := T10.setTop (mkF m 57 #[.val (.int p0), .val (.int p1), .val (.int p2), .val (.int p3), .val (.int (1 : Int32)), .val (.int (0 : Int32)), .val (.int p2), .val (.ref o1), .val (.int r)] [(.int (1 : Int32)), (.int r)])) (fun t kt => XS.iload X10.here hx rfl (hb hby at_55) rfl kt) ?_
      refine Go.st (S' := T10.setTop (mkF m 58 #[.val (.int p0), .val (.int p1), .val (.int p2), .val (.int p3), .val (.int (1 : Int32)), .val (.int (0 : Int32)), .val (.int p2), .val (.ref o1), .val (.int r)] [(.int p1), (.int (1 : Int32)), (.int r)])) (fun t kt => XS.iloadN X10.here hx rfl (hb hby at_57) rfl kt) ?_
      refine Go.st (S' := T10.setTop (mkF m 60 #[.val (.int p0), .val (.int p1), .val (.int p2), .val (.int p3), .val (.int (1 : Int32)), .val (.int (0 : Int32)), .val (.int p2), .val (.ref o1), .val (.int r)] [(.int p2), (.int p1), (.int (1 : Int32)), (.int r)])) (fun t kt => XS.iload X10.here hx rfl (hb hby at_58) rfl kt) ?_
      refine Go.stat X10 hx hZ hown (hw _ (List.mem_of_getElem? (i := 22) rfl)) (hw _ (List.mem_of_getElem? (i := 23) rfl)) (hw _ (List.mem_of_getElem? (i := 3) rfl)) (hw _ (List.mem_of_getElem? (i := 24) rfl)) (by decide) (argsL := [(.int (1 : Int32)), (.int p1), (.int p2)]) (rest := [(.int r)]) (rmE1 l Z a0 hw p1 p2 r h0 n0 Z0 hr) e10 rfl (by rw [hml]; rfl) pd__III_Z rfl (hb hby at_60) 1 (Nat.le_refl _) (by decide) (by decide) (by decide) (by decide) ?_
      intro v11 T11 L11 X11 hQ11
      obtain ⟨hv11, N11', e11⟩ := hQ11
      subst hv11
      have N11 := Fr.app N10 N11'
      show Go pP eE below _ (T11.setTop (mkF m 63 #[.val (.int p0), .val (.int p1), .val (.int p2), .val (.int p3), .val (.int (1 : Int32)), .val (.int (0 : Int32)), .val (.int p2), .val (.ref o1), .val (.int r)] [(.int r), (.int r)]))
      refine Go.st (S' := T11.setTop (mkF m 66 #[.val (.int p0), .val (.int p1), .val (.int p2), .val (.int p3), .val (.int (1 : Int32)), .val (.int (0 : Int32)), .val (.int p2), .val (.ref o1), .val (.int r)] [])) (fun t kt => XS.icmpNo X11.here hx rfl (hb hby at_63) rfl (XT.ii_ne_f rfl) kt) ?_
      refine Go.st (S' := T11.setTop (mkF m 67 #[.val (.int p0), .val (.int p1), .val (.int p2), .val (.int p3), .val (.int (1 : Int32)), .val (.int (0 : Int32)), .val (.int p2), .val (.ref o1), .val (.int r)] [(.int (1 : Int32))])) (fun t kt => XS.iconst X11.here hx rfl (hb hby at_66) kt) ?_
      refine Go.st (S' := T11.setTop (mkF m 71 #[.val (.int p0), .val (.int p1), .val (.int p2), .val (.int p3), .val (.int (1 : Int32)), .val (.int (0 : Int32)), .val (.int p2), .val (.ref o1), .val (.int r)] [(.int (1 : Int32))])) (fun t kt => XS.goto X11.here hx rfl (pc0 := 67) (pc' := 71) rfl (hb hby at_67) (by decide) (by decide) kt) ?_
      exact ret_b X11 hx hlk hret (hb hby at_71) (by decide) (by decide) (⟨rfl, N11⟩)
    · refine Go.st (S' := T.setTop (mkF m 15 #[.val (.int p0), .val (.int p1), .val (.int p2), .val (.int p3), .val (.int (1 : Int32)), .unset, .unset, .unset, .unset] [])) (fun t kt => XS.ifNo X.here hx rfl (hb hby at_12) rfl (XT.i0_eq_f hc12_8) kt) ?_
      refine Go.st (S' := T.setTop (mkF m 16 #[.val (.int p0), .val (.int p1), .val (.int p2), .val (.int p3), .val (.int (1 : Int32)), .unset, .unset, .unset, .unset] [(.int (1 : Int32))])) (fun t kt => XS.iconst X.here hx rfl (hb hby at_15) kt) ?_
      refine Go.st (S' := T.setTop (mkF m 20 #[.val (.int p0), .val (.int p1), .val (.int p2), .val (.int p3), .val (.int (1 : Int32)), .unset, .unset, .unset, .unset] [(.int (1 : Int32))])) (fun t kt => XS.goto X.here hx rfl (pc0 := 16) (pc' := 20) rfl (hb hby at_16) (by decide) (by decide) kt) ?_
      refine Go.st (S' := T.setTop (mkF m 22 #[.val (.int p0), .val (.int p1), .val (.int p2), .val (.int p3), .val (.int (1 : Int32)), .val (.int (1 : Int32)), .unset, .unset, .unset] [])) (fun t kt => XS.istore X.here hx rfl (hb hby at_20) rfl rfl kt) ?_
      refine Go.st (S' := T.setTop (mkF m 24 #[.val (.int p0), .val (.int p1), .val (.int p2), .val (.int p3), .val (.int (1 : Int32)), .val (.int (1 : Int32)), .unset, .unset, .unset] [(.int (1 : Int32))])) (fun t kt => XS.iload X.here hx rfl (hb hby at_22) rfl kt) ?_
      refine Go.st (S' := T.setTop (mkF m 27 #[.val (.int p0), .val (.int p1), .val (.int p2), .val (.int p3), .val (.int (1 : Int32)), .val (.int (1 : Int32)), .unset, .unset, .unset] [])) (fun t kt => XS.ifNo X.here hx rfl (hb hby at_24) rfl (XT.i0_eq_f (by decide)) kt) ?_
      refine Go.st (S' := T.setTop (mkF m 28 #[.val (.int p0), .val (.int p1), .val (.int p2), .val (.int p3), .val (.int (1 : Int32)), .val (.int (1 : Int32)), .unset, .unset, .unset] [(.int p1)])) (fun t kt => XS.iloadN X.here hx rfl (hb hby at_27) rfl kt) ?_
      refine Go.st (S' := T.setTop (mkF m 32 #[.val (.int p0), .val (.int p1), .val (.int p2), .val (.int p3), .val (.int (1 : Int32)), .val (.int (1 : Int32)), .unset, .unset, .unset] [(.int p1)])) (fun t kt => XS.goto X.here hx rfl (pc0 := 28) (pc' := 32) rfl (hb hby at_28) (by decide) (by decide) kt) ?_
      refine Go.st (S' := T.setTop (mkF m 34 #[.val (.int p0), .val (.int p1), .val (.int p2), .val (.int p3), .val (.int (1 : Int32)), .val (.int (1 : Int32)), .val (.int p1), .unset, .unset] [])) (fun t kt => XS.istore X.here hx rfl (hb hby at_32) rfl rfl kt) ?_
      refine Go.st (S' := T.setTop (mkF m 36 #[.val (.int p0), .val (.int p1), .val (.int p2), .val (.int p3), .val (.int (1 : Int32)), .val (.int (1 : Int32)), .val (.int p1), .unset, .unset] [(.int (1 : Int32))])) (fun t kt => XS.iload X.here hx rfl (hb hby at_34) rfl kt) ?_
      refine Go.stat X hx hZ hown (hw _ (List.mem_of_getElem? (i := 1) rfl)) (hw _ (List.mem_of_getElem? (i := 2) rfl)) (hw _ (List.mem_of_getElem? (i := 3) rfl)) (hw _ (List.mem_of_getElem? (i := 4) rfl)) (by decide) (argsL := [(.int (1 : Int32))]) (rest := []) (rmP1 l Z a0 hw o1 h0 n0 Z0 S_1) eT rfl (by rw [hml]; rfl) pd__I_Lcom_example_sunder_sunder_query_Condition_Operator_ rfl (hb hby at_36) 0 (Nat.le_refl _) (by decide) (by decide) (by decide) (by decide) ?_
      intro v12 T12 L12 X12 hQ12
      obtain ⟨hv12, N12', e12⟩ := hQ12
      subst hv12
      have N12 := Fr.app N0 N12'
      show Go pP eE below _ (T12.setTop (mkF m 39 #[.val (.int p0), .val (.int p1), .val (.int p2), .val (.int p3), .val (.int (1 : Int32)), .val (.int (1 : Int32)), .val (.int p1), .unset, .unset] [(.ref o1)]))
      refine Go.st (S' := T12.setTop (mkF m 41 #[.val (.int p0), .val (.int p1), .val (.int p2), .val (.int p3), .val (.int (1 : Int32)), .val (.int (1 : Int32)), .val (.int p1), .val (.ref o1), .unset] [])) (fun t kt => XS.astore X12.here hx rfl (hb hby at_39) rfl rfl rfl kt) ?_
      refine Go.st (S' := T12.setTop (mkF m 43 #[.val (.int p0), .val (.int p1), .val (.int p2), .val (.int p3), .val (.int (1 : Int32)), .val (.int (1 : Int32)), .val (.int p1), .val (.ref o1), .unset] [(.ref o1)])) (fun t kt => XS.aload X12.here hx rfl (hb hby at_41) rfl rfl kt) ?_
      refine Go.st (S' := T12.setTop (mkF m 44 #[.val (.int p0), .val (.int p1), .val (.int p2), .val (.int p3), .val (.int (1 : Int32)), .val (.int (1 : Int32)), .val (.int p1), .val (.ref o1), .unset] [(.int p1), (.ref o1)])) (fun t kt => XS.iloadN X12.here hx rfl (hb hby at_43) rfl kt) ?_
      refine Go.st (S' := T12.setTop (mkF m 45 #[.val (.int p0), .val (.int p1), .val (.int p2), .val (.int p3), .val (.int (1 : Int32)), .val (.int (1 : Int32)), .val (.int p1), .val (.ref o1), .unset] [(.double (FP.i2d p1)), (.ref o1)])) (fun t kt => XS.i2dS X12.here hx rfl (hb hby at_44) rfl rfl kt) ?_
      refine Go.st (S' := T12.setTop (mkF m 47 #[.val (.int p0), .val (.int p1), .val (.int p2), .val (.int p3), .val (.int (1 : Int32)), .val (.int (1 : Int32)), .val (.int p1), .val (.ref o1), .unset] [(.int p1), (.double (FP.i2d p1)), (.ref o1)])) (fun t kt => XS.iload X12.here hx rfl (hb hby at_45) rfl kt) ?_
      refine Go.st (S' := T12.setTop (mkF m 48 #[.val (.int p0), .val (.int p1), .val (.int p2), .val (.int p3), .val (.int (1 : Int32)), .val (.int (1 : Int32)), .val (.int p1), .val (.ref o1), .unset] [(.double (FP.i2d p1)), (.double (FP.i2d p1)), (.ref o1)])) (fun t kt => XS.i2dS X12.here hx rfl (hb hby at_47) rfl rfl kt) ?_
      obtain ⟨r, hr⟩ : ∃ r : Int32, r = if ¬ p1 = p1 then 1 else 0 := ⟨_, rfl⟩
      refine Go.virt X12 hx hZ hown (hw _ (List.mem_of_getElem? (i := 8) rfl)) (hw _ (List.mem_of_getElem? (i := 9) rfl)) (notFace_of_selects (mvT (args := #[]) hZ (hw _ (List.mem_of_getElem? (i := 11) rfl)))) (hw _ (List.mem_of_getElem? (i := 11) rfl)) (hw _ (List.mem_of_getElem? (i := 10) rfl)) (hw _ (List.mem_of_getElem? (i := 12) rfl)) (hw _ (List.mem_of_getElem? (i := 6) rfl)) (by decide) (b := o1) (argsL := [(.double (FP.i2d p1)), (.double (FP.i2d p1))]) (rest := []) (rmH1 l Z a0 hw o1 (FP.i2d p1) (FP.i2d p1) p1 p1 r h0 n0 Z0 E_1 F_1 rfl rfl hr) e12 E_1 rfl (by rw [hml]; rfl) pd__DD_Z rfl (hb hby at_48) 0 (Nat.le_refl _) (by decide) (by decide) (by decide) (by decide) ?_
      intro v13 T13 L13 X13 hQ13
      obtain ⟨hv13, N13', e13⟩ := hQ13
      subst hv13
      have N13 := Fr.app N12 N13'
      show Go pP eE below _ (T13.setTop (mkF m 51 #[.val (.int p0), .val (.int p1), .val (.int p2), .val (.int p3), .val (.int (1 : Int32)), .val (.int (1 : Int32)), .val (.int p1), .val (.ref o1), .unset] [(.int r)]))
      refine Go.st (S' := T13.setTop (mkF m 53 #[.val (.int p0), .val (.int p1), .val (.int p2), .val (.int p3), .val (.int (1 : Int32)), .val (.int (1 : Int32)), .val (.int p1), .val (.ref o1), .val (.int r)] [])) (fun t kt => XS.istore X13.here hx rfl (hb hby at_51) rfl rfl kt) ?_
      refine Go.st (S' := T13.setTop (mkF m 55 #[.val (.int p0), .val (.int p1), .val (.int p2), .val (.int p3), .val (.int (1 : Int32)), .val (.int (1 : Int32)), .val (.int p1), .val (.ref o1), .val (.int r)] [(.int r)])) (fun t kt => XS.iload X13.here hx rfl (hb hby at_53) rfl kt) ?_
      refine Go.st (S' := T13.setTop (mkF m 57 #[.val (.int p0), .val (.int p1), .val (.int p2), .val (.int p3), .val (.int (1 : Int32)), .val (.int (1 : Int32)), .val (.int p1), .val (.ref o1), .val (.int r)] [(.int (1 : Int32)), (.int r)])) (fun t kt => XS.iload X13.here hx rfl (hb hby at_55) rfl kt) ?_
      refine Go.st (S' := T13.setTop (mkF m 58 #[.val (.int p0), .val (.int p1), .val (.int p2), .val (.int p3), .val (.int (1 : Int32)), .val (.int (1 : Int32)), .val (.int p1), .val (.ref o1), .val (.int r)] [(.int p1), (.int (1 : Int32)), (.int r)])) (fun t kt => XS.iloadN X13.here hx rfl (hb hby at_57) rfl kt) ?_
      refine Go.st (S' := T13.setTop (mkF m 60 #[.val (.int p0), .val (.int p1), .val (.int p2), .val (.int p3), .val (.int (1 : Int32)), .val (.int (1 : Int32)), .val (.int p1), .val (.ref o1), .val (.int r)] [(.int p1), (.int p1), (.int (1 : Int32)), (.int r)])) (fun t kt => XS.iload X13.here hx rfl (hb hby at_58) rfl kt) ?_
      refine Go.stat X13 hx hZ hown (hw _ (List.mem_of_getElem? (i := 22) rfl)) (hw _ (List.mem_of_getElem? (i := 23) rfl)) (hw _ (List.mem_of_getElem? (i := 3) rfl)) (hw _ (List.mem_of_getElem? (i := 24) rfl)) (by decide) (argsL := [(.int (1 : Int32)), (.int p1), (.int p1)]) (rest := [(.int r)]) (rmE1 l Z a0 hw p1 p1 r h0 n0 Z0 hr) e13 rfl (by rw [hml]; rfl) pd__III_Z rfl (hb hby at_60) 1 (Nat.le_refl _) (by decide) (by decide) (by decide) (by decide) ?_
      intro v14 T14 L14 X14 hQ14
      obtain ⟨hv14, N14', e14⟩ := hQ14
      subst hv14
      have N14 := Fr.app N13 N14'
      show Go pP eE below _ (T14.setTop (mkF m 63 #[.val (.int p0), .val (.int p1), .val (.int p2), .val (.int p3), .val (.int (1 : Int32)), .val (.int (1 : Int32)), .val (.int p1), .val (.ref o1), .val (.int r)] [(.int r), (.int r)]))
      refine Go.st (S' := T14.setTop (mkF m 66 #[.val (.int p0), .val (.int p1), .val (.int p2), .val (.int p3), .val (.int (1 : Int32)), .val (.int (1 : Int32)), .val (.int p1), .val (.ref o1), .val (.int r)] [])) (fun t kt => XS.icmpNo X14.here hx rfl (hb hby at_63) rfl (XT.ii_ne_f rfl) kt) ?_
      refine Go.st (S' := T14.setTop (mkF m 67 #[.val (.int p0), .val (.int p1), .val (.int p2), .val (.int p3), .val (.int (1 : Int32)), .val (.int (1 : Int32)), .val (.int p1), .val (.ref o1), .val (.int r)] [(.int (1 : Int32))])) (fun t kt => XS.iconst X14.here hx rfl (hb hby at_66) kt) ?_
      refine Go.st (S' := T14.setTop (mkF m 71 #[.val (.int p0), .val (.int p1), .val (.int p2), .val (.int p3), .val (.int (1 : Int32)), .val (.int (1 : Int32)), .val (.int p1), .val (.ref o1), .val (.int r)] [(.int (1 : Int32))])) (fun t kt => XS.goto X14.here hx rfl (pc0 := 67) (pc' := 71) rfl (hb hby at_67) (by decide) (by decide) kt) ?_
      exact ret_b X14 hx hlk hret (hb hby at_71) (by decide) (by decide) (⟨rfl, N14⟩)
  · rw [hi2]
    show Go pP eE below _ (T.setTop (mkF m 9 #[.val (.int p0), .val (.int p1), .val (.int p2), .val (.int p3), .val (.int (2 : Int32)), .unset, .unset, .unset, .unset] []))
    refine Go.st (S' := T.setTop (mkF m 10 #[.val (.int p0), .val (.int p1), .val (.int p2), .val (.int p3), .val (.int (2 : Int32)), .unset, .unset, .unset, .unset] [(.int p3)])) (fun t kt => XS.iloadN X.here hx rfl (hb hby at_9) rfl kt) ?_
    refine Go.st (S' := T.setTop (mkF m 11 #[.val (.int p0), .val (.int p1), .val (.int p2), .val (.int p3), .val (.int (2 : Int32)), .unset, .unset, .unset, .unset] [(.int (1 : Int32)), (.int p3)])) (fun t kt => XS.iconst X.here hx rfl (hb hby at_10) kt) ?_
    refine Go.st (S' := T.setTop (mkF m 12 #[.val (.int p0), .val (.int p1), .val (.int p2), .val (.int p3), .val (.int (2 : Int32)), .unset, .unset, .unset, .unset] [(.int (p3 &&& (1 : Int32)))])) (fun t kt => XS.iand X.here hx rfl (hb hby at_11) rfl kt) ?_
    by_cases hc12_15 : (p3 &&& (1 : Int32)) = 0
    · refine Go.st (S' := T.setTop (mkF m 19 #[.val (.int p0), .val (.int p1), .val (.int p2), .val (.int p3), .val (.int (2 : Int32)), .unset, .unset, .unset, .unset] [])) (fun t kt => XS.ifYes X.here hx rfl (pc0 := 12) (pc' := 19) rfl (hb hby at_12) rfl (XT.i0_eq_t hc12_15) (by decide) (by decide) kt) ?_
      refine Go.st (S' := T.setTop (mkF m 20 #[.val (.int p0), .val (.int p1), .val (.int p2), .val (.int p3), .val (.int (2 : Int32)), .unset, .unset, .unset, .unset] [(.int (0 : Int32))])) (fun t kt => XS.iconst X.here hx rfl (hb hby at_19) kt) ?_
      refine Go.st (S' := T.setTop (mkF m 22 #[.val (.int p0), .val (.int p1), .val (.int p2), .val (.int p3), .val (.int (2 : Int32)), .val (.int (0 : Int32)), .unset, .unset, .unset] [])) (fun t kt => XS.istore X.here hx rfl (hb hby at_20) rfl rfl kt) ?_
      refine Go.st (S' := T.setTop (mkF m 24 #[.val (.int p0), .val (.int p1), .val (.int p2), .val (.int p3), .val (.int (2 : Int32)), .val (.int (0 : Int32)), .unset, .unset, .unset] [(.int (0 : Int32))])) (fun t kt => XS.iload X.here hx rfl (hb hby at_22) rfl kt) ?_
      refine Go.st (S' := T.setTop (mkF m 31 #[.val (.int p0), .val (.int p1), .val (.int p2), .val (.int p3), .val (.int (2 : Int32)), .val (.int (0 : Int32)), .unset, .unset, .unset] [])) (fun t kt => XS.ifYes X.here hx rfl (pc0 := 24) (pc' := 31) rfl (hb hby at_24) rfl (XT.i0_eq_t (by decide)) (by decide) (by decide) kt) ?_
      refine Go.st (S' := T.setTop (mkF m 32 #[.val (.int p0), .val (.int p1), .val (.int p2), .val (.int p3), .val (.int (2 : Int32)), .val (.int (0 : Int32)), .unset, .unset, .unset] [(.int p2)])) (fun t kt => XS.iloadN X.here hx rfl (hb hby at_31) rfl kt) ?_
      refine Go.st (S' := T.setTop (mkF m 34 #[.val (.int p0), .val (.int p1), .val (.int p2), .val (.int p3), .val (.int (2 : Int32)), .val (.int (0 : Int32)), .val (.int p2), .unset, .unset] [])) (fun t kt => XS.istore X.here hx rfl (hb hby at_32) rfl rfl kt) ?_
      refine Go.st (S' := T.setTop (mkF m 36 #[.val (.int p0), .val (.int p1), .val (.int p2), .val (.int p3), .val (.int (2 : Int32)), .val (.int (0 : Int32)), .val (.int p2), .unset, .unset] [(.int (2 : Int32))])) (fun t kt => XS.iload X.here hx rfl (hb hby at_34) rfl kt) ?_
      refine Go.stat X hx hZ hown (hw _ (List.mem_of_getElem? (i := 1) rfl)) (hw _ (List.mem_of_getElem? (i := 2) rfl)) (hw _ (List.mem_of_getElem? (i := 3) rfl)) (hw _ (List.mem_of_getElem? (i := 4) rfl)) (by decide) (argsL := [(.int (2 : Int32))]) (rest := []) (rmP2 l Z a0 hw o2 h0 n0 Z0 S_2) eT rfl (by rw [hml]; rfl) pd__I_Lcom_example_sunder_sunder_query_Condition_Operator_ rfl (hb hby at_36) 0 (Nat.le_refl _) (by decide) (by decide) (by decide) (by decide) ?_
      intro v16 T16 L16 X16 hQ16
      obtain ⟨hv16, N16', e16⟩ := hQ16
      subst hv16
      have N16 := Fr.app N0 N16'
      show Go pP eE below _ (T16.setTop (mkF m 39 #[.val (.int p0), .val (.int p1), .val (.int p2), .val (.int p3), .val (.int (2 : Int32)), .val (.int (0 : Int32)), .val (.int p2), .unset, .unset] [(.ref o2)]))
      refine Go.st (S' := T16.setTop (mkF m 41 #[.val (.int p0), .val (.int p1), .val (.int p2), .val (.int p3), .val (.int (2 : Int32)), .val (.int (0 : Int32)), .val (.int p2), .val (.ref o2), .unset] [])) (fun t kt => XS.astore X16.here hx rfl (hb hby at_39) rfl rfl rfl kt) ?_
      refine Go.st (S' := T16.setTop (mkF m 43 #[.val (.int p0), .val (.int p1), .val (.int p2), .val (.int p3), .val (.int (2 : Int32)), .val (.int (0 : Int32)), .val (.int p2), .val (.ref o2), .unset] [(.ref o2)])) (fun t kt => XS.aload X16.here hx rfl (hb hby at_41) rfl rfl kt) ?_
      refine Go.st (S' := T16.setTop (mkF m 44 #[.val (.int p0), .val (.int p1), .val (.int p2), .val (.int p3), .val (.int (2 : Int32)), .val (.int (0 : Int32)), .val (.int p2), .val (.ref o2), .unset] [(.int p1), (.ref o2)])) (fun t kt => XS.iloadN X16.here hx rfl (hb hby at_43) rfl kt) ?_
      refine Go.st (S' := T16.setTop (mkF m 45 #[.val (.int p0), .val (.int p1), .val (.int p2), .val (.int p3), .val (.int (2 : Int32)), .val (.int (0 : Int32)), .val (.int p2), .val (.ref o2), .unset] [(.double (FP.i2d p1)), (.ref o2)])) (fun t kt => XS.i2dS X16.here hx rfl (hb hby at_44) rfl rfl kt) ?_
      refine Go.st (S' := T16.setTop (mkF m 47 #[.val (.int p0), .val (.int p1), .val (.int p2), .val (.int p3), .val (.int (2 : Int32)), .val (.int (0 : Int32)), .val (.int p2), .val (.ref o2), .unset] [(.int p2), (.double (FP.i2d p1)), (.ref o2)])) (fun t kt => XS.iload X16.here hx rfl (hb hby at_45) rfl kt) ?_
      refine Go.st (S' := T16.setTop (mkF m 48 #[.val (.int p0), .val (.int p1), .val (.int p2), .val (.int p3), .val (.int (2 : Int32)), .val (.int (0 : Int32)), .val (.int p2), .val (.ref o2), .unset] [(.double (FP.i2d p2)), (.double (FP.i2d p1)), (.ref o2)])) (fun t kt => XS.i2dS X16.here hx rfl (hb hby at_47) rfl rfl kt) ?_
      obtain ⟨r, hr⟩ : ∃ r : Int32, r = if p1 < p2 then 1 else 0 := ⟨_, rfl⟩
      refine Go.virt X16 hx hZ hown (hw _ (List.mem_of_getElem? (i := 8) rfl)) (hw _ (List.mem_of_getElem? (i := 9) rfl)) (notFace_of_selects (mvT (args := #[]) hZ (hw _ (List.mem_of_getElem? (i := 11) rfl)))) (hw _ (List.mem_of_getElem? (i := 11) rfl)) (hw _ (List.mem_of_getElem? (i := 10) rfl)) (hw _ (List.mem_of_getElem? (i := 12) rfl)) (hw _ (List.mem_of_getElem? (i := 6) rfl)) (by decide) (b := o2) (argsL := [(.double (FP.i2d p1)), (.double (FP.i2d p2))]) (rest := []) (rmH2 l Z a0 hw o2 (FP.i2d p1) (FP.i2d p2) p1 p2 r h0 n0 Z0 E_2 F_2 rfl rfl hr) e16 E_2 rfl (by rw [hml]; rfl) pd__DD_Z rfl (hb hby at_48) 0 (Nat.le_refl _) (by decide) (by decide) (by decide) (by decide) ?_
      intro v17 T17 L17 X17 hQ17
      obtain ⟨hv17, N17', e17⟩ := hQ17
      subst hv17
      have N17 := Fr.app N16 N17'
      show Go pP eE below _ (T17.setTop (mkF m 51 #[.val (.int p0), .val (.int p1), .val (.int p2), .val (.int p3), .val (.int (2 : Int32)), .val (.int (0 : Int32)), .val (.int p2), .val (.ref o2), .unset] [(.int r)]))
      refine Go.st (S' := T17.setTop (mkF m 53 #[.val (.int p0), .val (.int p1), .val (.int p2), .val (.int p3), .val (.int (2 : Int32)), .val (.int (0 : Int32)), .val (.int p2), .val (.ref o2), .val (.int r)] [])) (fun t kt => XS.istore X17.here hx rfl (hb hby at_51) rfl rfl kt) ?_
      refine Go.st (S' := T17.setTop (mkF m 55 #[.val (.int p0), .val (.int p1), .val (.int p2), .val (.int p3), .val (.int (2 : Int32)), .val (.int (0 : Int32)), .val (.int p2), .val (.ref o2), .val (.int r)] [(.int r)])) (fun t kt => XS.iload X17.here hx rfl (hb hby at_53) rfl kt) ?_
      refine Go.st (S' := T17.setTop (mkF m 57 #[.val (.int p0), .val (.int p1), .val (.int p2), .val (.int p3), .val (.int (2 : Int32)), .val (.int (0 : Int32)), .val (.int p2), .val (.ref o2), .val (.int r)] [(.int (2 : Int32)), (.int r)])) (fun t kt => XS.iload X17.here hx rfl (hb hby at_55) rfl kt) ?_
      refine Go.st (S' := T17.setTop (mkF m 58 #[.val (.int p0), .val (.int p1), .val (.int p2), .val (.int p3), .val (.int (2 : Int32)), .val (.int (0 : Int32)), .val (.int p2), .val (.ref o2), .val (.int r)] [(.int p1), (.int (2 : Int32)), (.int r)])) (fun t kt => XS.iloadN X17.here hx rfl (hb hby at_57) rfl kt) ?_
      refine Go.st (S' := T17.setTop (mkF m 60 #[.val (.int p0), .val (.int p1), .val (.int p2), .val (.int p3), .val (.int (2 : Int32)), .val (.int (0 : Int32)), .val (.int p2), .val (.ref o2), .val (.int r)] [(.int p2), (.int p1), (.int (2 : Int32)), (.int r)])) (fun t kt => XS.iload X17.here hx rfl (hb hby at_58) rfl kt) ?_
      refine Go.stat X17 hx hZ hown (hw _ (List.mem_of_getElem? (i := 22) rfl)) (hw _ (List.mem_of_getElem? (i := 23) rfl)) (hw _ (List.mem_of_getElem? (i := 3) rfl)) (hw _ (List.mem_of_getElem? (i := 24) rfl)) (by decide) (argsL := [(.int (2 : Int32)), (.int p1), (.int p2)]) (rest := [(.int r)]) (rmE2 l Z a0 hw p1 p2 r h0 n0 Z0 hr) e17 rfl (by rw [hml]; rfl) pd__III_Z rfl (hb hby at_60) 1 (Nat.le_refl _) (by decide) (by decide) (by decide) (by decide) ?_
      intro v18 T18 L18 X18 hQ18
      obtain ⟨hv18, N18', e18⟩ := hQ18
      subst hv18
      have N18 := Fr.app N17 N18'
      show Go pP eE below _ (T18.setTop (mkF m 63 #[.val (.int p0), .val (.int p1), .val (.int p2), .val (.int p3), .val (.int (2 : Int32)), .val (.int (0 : Int32)), .val (.int p2), .val (.ref o2), .val (.int r)] [(.int r), (.int r)]))
      refine Go.st (S' := T18.setTop (mkF m 66 #[.val (.int p0), .val (.int p1), .val (.int p2), .val (.int p3), .val (.int (2 : Int32)), .val (.int (0 : Int32)), .val (.int p2), .val (.ref o2), .val (.int r)] [])) (fun t kt => XS.icmpNo X18.here hx rfl (hb hby at_63) rfl (XT.ii_ne_f rfl) kt) ?_
      refine Go.st (S' := T18.setTop (mkF m 67 #[.val (.int p0), .val (.int p1), .val (.int p2), .val (.int p3), .val (.int (2 : Int32)), .val (.int (0 : Int32)), .val (.int p2), .val (.ref o2), .val (.int r)] [(.int (1 : Int32))])) (fun t kt => XS.iconst X18.here hx rfl (hb hby at_66) kt) ?_
      refine Go.st (S' := T18.setTop (mkF m 71 #[.val (.int p0), .val (.int p1), .val (.int p2), .val (.int p3), .val (.int (2 : Int32)), .val (.int (0 : Int32)), .val (.int p2), .val (.ref o2), .val (.int r)] [(.int (1 : Int32))])) (fun t kt => XS.goto X18.here hx rfl (pc0 := 67) (pc' := 71) rfl (hb hby at_67) (by decide) (by decide) kt) ?_
      exact ret_b X18 hx hlk hret (hb hby at_71) (by decide) (by decide) (⟨rfl, N18⟩)
    · refine Go.st (S' := T.setTop (mkF m 15 #[.val (.int p0), .val (.int p1), .val (.int p2), .val (.int p3), .val (.int (2 : Int32)), .unset, .unset, .unset, .unset] [])) (fun t kt => XS.ifNo X.here hx rfl (hb hby at_12) rfl (XT.i0_eq_f hc12_15) kt) ?_
      refine Go.st (S' := T.setTop (mkF m 16 #[.val (.int p0), .val (.int p1), .val (.int p2), .val (.int p3), .val (.int (2 : Int32)), .unset, .unset, .unset, .unset] [(.int (1 : Int32))])) (fun t kt => XS.iconst X.here hx rfl (hb hby at_15) kt) ?_
      refine Go.st (S' := T.setTop (mkF m 20 #[.val (.int p0), .val (.int p1), .val (.int p2), .val (.int p3), .val (.int (2 : Int32)), .unset, .unset, .unset, .unset] [(.int (1 : Int32))])) (fun t kt => XS.goto X.here hx rfl (pc0 := 16) (pc' := 20) rfl (hb hby at_16) (by decide) (by decide) kt) ?_
      refine Go.st (S' := T.setTop (mkF m 22 #[.val (.int p0), .val (.int p1), .val (.int p2), .val (.int p3), .val (.int (2 : Int32)), .val (.int (1 : Int32)), .unset, .unset, .unset] [])) (fun t kt => XS.istore X.here hx rfl (hb hby at_20) rfl rfl kt) ?_
      refine Go.st (S' := T.setTop (mkF m 24 #[.val (.int p0), .val (.int p1), .val (.int p2), .val (.int p3), .val (.int (2 : Int32)), .val (.int (1 : Int32)), .unset, .unset, .unset] [(.int (1 : Int32))])) (fun t kt => XS.iload X.here hx rfl (hb hby at_22) rfl kt) ?_
      refine Go.st (S' := T.setTop (mkF m 27 #[.val (.int p0), .val (.int p1), .val (.int p2), .val (.int p3), .val (.int (2 : Int32)), .val (.int (1 : Int32)), .unset, .unset, .unset] [])) (fun t kt => XS.ifNo X.here hx rfl (hb hby at_24) rfl (XT.i0_eq_f (by decide)) kt) ?_
      refine Go.st (S' := T.setTop (mkF m 28 #[.val (.int p0), .val (.int p1), .val (.int p2), .val (.int p3), .val (.int (2 : Int32)), .val (.int (1 : Int32)), .unset, .unset, .unset] [(.int p1)])) (fun t kt => XS.iloadN X.here hx rfl (hb hby at_27) rfl kt) ?_
      refine Go.st (S' := T.setTop (mkF m 32 #[.val (.int p0), .val (.int p1), .val (.int p2), .val (.int p3), .val (.int (2 : Int32)), .val (.int (1 : Int32)), .unset, .unset, .unset] [(.int p1)])) (fun t kt => XS.goto X.here hx rfl (pc0 := 28) (pc' := 32) rfl (hb hby at_28) (by decide) (by decide) kt) ?_
      refine Go.st (S' := T.setTop (mkF m 34 #[.val (.int p0), .val (.int p1), .val (.int p2), .val (.int p3), .val (.int (2 : Int32)), .val (.int (1 : Int32)), .val (.int p1), .unset, .unset] [])) (fun t kt => XS.istore X.here hx rfl (hb hby at_32) rfl rfl kt) ?_
      refine Go.st (S' := T.setTop (mkF m 36 #[.val (.int p0), .val (.int p1), .val (.int p2), .val (.int p3), .val (.int (2 : Int32)), .val (.int (1 : Int32)), .val (.int p1), .unset, .unset] [(.int (2 : Int32))])) (fun t kt => XS.iload X.here hx rfl (hb hby at_34) rfl kt) ?_
      refine Go.stat X hx hZ hown (hw _ (List.mem_of_getElem? (i := 1) rfl)) (hw _ (List.mem_of_getElem? (i := 2) rfl)) (hw _ (List.mem_of_getElem? (i := 3) rfl)) (hw _ (List.mem_of_getElem? (i := 4) rfl)) (by decide) (argsL := [(.int (2 : Int32))]) (rest := []) (rmP2 l Z a0 hw o2 h0 n0 Z0 S_2) eT rfl (by rw [hml]; rfl) pd__I_Lcom_example_sunder_sunder_query_Condition_Operator_ rfl (hb hby at_36) 0 (Nat.le_refl _) (by decide) (by decide) (by decide) (by decide) ?_
      intro v19 T19 L19 X19 hQ19
      obtain ⟨hv19, N19', e19⟩ := hQ19
      subst hv19
      have N19 := Fr.app N0 N19'
      show Go pP eE below _ (T19.setTop (mkF m 39 #[.val (.int p0), .val (.int p1), .val (.int p2), .val (.int p3), .val (.int (2 : Int32)), .val (.int (1 : Int32)), .val (.int p1), .unset, .unset] [(.ref o2)]))
      refine Go.st (S' := T19.setTop (mkF m 41 #[.val (.int p0), .val (.int p1), .val (.int p2), .val (.int p3), .val (.int (2 : Int32)), .val (.int (1 : Int32)), .val (.int p1), .val (.ref o2), .unset] [])) (fun t kt => XS.astore X19.here hx rfl (hb hby at_39) rfl rfl rfl kt) ?_
      refine Go.st (S' := T19.setTop (mkF m 43 #[.val (.int p0), .val (.int p1), .val (.int p2), .val (.int p3), .val (.int (2 : Int32)), .val (.int (1 : Int32)), .val (.int p1), .val (.ref o2), .unset] [(.ref o2)])) (fun t kt => XS.aload X19.here hx rfl (hb hby at_41) rfl rfl kt) ?_
      refine Go.st (S' := T19.setTop (mkF m 44 #[.val (.int p0), .val (.int p1), .val (.int p2), .val (.int p3), .val (.int (2 : Int32)), .val (.int (1 : Int32)), .val (.int p1), .val (.ref o2), .unset] [(.int p1), (.ref o2)])) (fun t kt => XS.iloadN X19.here hx rfl (hb hby at_43) rfl kt) ?_
      refine Go.st (S' := T19.setTop (mkF m 45 #[.val (.int p0), .val (.int p1), .val (.int p2), .val (.int p3), .val (.int (2 : Int32)), .val (.int (1 : Int32)), .val (.int p1), .val (.ref o2), .unset] [(.double (FP.i2d p1)), (.ref o2)])) (fun t kt => XS.i2dS X19.here hx rfl (hb hby at_44) rfl rfl kt) ?_
      refine Go.st (S' := T19.setTop (mkF m 47 #[.val (.int p0), .val (.int p1), .val (.int p2), .val (.int p3), .val (.int (2 : Int32)), .val (.int (1 : Int32)), .val (.int p1), .val (.ref o2), .unset] [(.int p1), (.double (FP.i2d p1)), (.ref o2)])) (fun t kt => XS.iload X19.here hx rfl (hb hby at_45) rfl kt) ?_
      refine Go.st (S' := T19.setTop (mkF m 48 #[.val (.int p0), .val (.int p1), .val (.int p2), .val (.int p3), .val (.int (2 : Int32)), .val (.int (1 : Int32)), .val (.int p1), .val (.ref o2), .unset] [(.double (FP.i2d p1)), (.double (FP.i2d p1)), (.ref o2)])) (fun t kt => XS.i2dS X19.here hx rfl (hb hby at_47) rfl rfl kt) ?_
      obtain ⟨r, hr⟩ : ∃ r : Int32, r = if p1 < p1 then 1 else 0 := ⟨_, rfl⟩
      refine Go.virt X19 hx hZ hown (hw _ (List.mem_of_getElem? (i := 8) rfl)) (hw _ (List.mem_of_getElem? (i := 9) rfl)) (notFace_of_selects (mvT (args := #[]) hZ (hw _ (List.mem_of_getElem? (i := 11) rfl)))) (hw _ (List.mem_of_getElem? (i := 11) rfl)) (hw _ (List.mem_of_getElem? (i := 10) rfl)) (hw _ (List.mem_of_getElem? (i := 12) rfl)) (hw _ (List.mem_of_getElem? (i := 6) rfl)) (by decide) (b := o2) (argsL := [(.double (FP.i2d p1)), (.double (FP.i2d p1))]) (rest := []) (rmH2 l Z a0 hw o2 (FP.i2d p1) (FP.i2d p1) p1 p1 r h0 n0 Z0 E_2 F_2 rfl rfl hr) e19 E_2 rfl (by rw [hml]; rfl) pd__DD_Z rfl (hb hby at_48) 0 (Nat.le_refl _) (by decide) (by decide) (by decide) (by decide) ?_
      intro v20 T20 L20 X20 hQ20
      obtain ⟨hv20, N20', e20⟩ := hQ20
      subst hv20
      have N20 := Fr.app N19 N20'
      show Go pP eE below _ (T20.setTop (mkF m 51 #[.val (.int p0), .val (.int p1), .val (.int p2), .val (.int p3), .val (.int (2 : Int32)), .val (.int (1 : Int32)), .val (.int p1), .val (.ref o2), .unset] [(.int r)]))
      refine Go.st (S' := T20.setTop (mkF m 53 #[.val (.int p0), .val (.int p1), .val (.int p2), .val (.int p3), .val (.int (2 : Int32)), .val (.int (1 : Int32)), .val (.int p1), .val (.ref o2), .val (.int r)] [])) (fun t kt => XS.istore X20.here hx rfl (hb hby at_51) rfl rfl kt) ?_
      refine Go.st (S' := T20.setTop (mkF m 55 #[.val (.int p0), .val (.int p1), .val (.int p2), .val (.int p3), .val (.int (2 : Int32)), .val (.int (1 : Int32)), .val (.int p1), .val (.ref o2), .val (.int r)] [(.int r)])) (fun t kt => XS.iload X20.here hx rfl (hb hby at_53) rfl kt) ?_
      refine Go.st (S' := T20.setTop (mkF m 57 #[.val (.int p0), .val (.int p1), .val (.int p2), .val (.int p3), .val (.int (2 : Int32)), .val (.int (1 : Int32)), .val (.int p1), .val (.ref o2), .val (.int r)] [(.int (2 : Int32)), (.int r)])) (fun t kt => XS.iload X20.here hx rfl (hb hby at_55) rfl kt) ?_
      refine Go.st (S' := T20.setTop (mkF m 58 #[.val (.int p0), .val (.int p1), .val (.int p2), .val (.int p3), .val (.int (2 : Int32)), .val (.int (1 : Int32)), .val (.int p1), .val (.ref o2), .val (.int r)] [(.int p1), (.int (2 : Int32)), (.int r)])) (fun t kt => XS.iloadN X20.here hx rfl (hb hby at_57) rfl kt) ?_
      refine Go.st (S' := T20.setTop (mkF m 60 #[.val (.int p0), .val (.int p1), .val (.int p2), .val (.int p3), .val (.int (2 : Int32)), .val (.int (1 : Int32)), .val (.int p1), .val (.ref o2), .val (.int r)] [(.int p1), (.int p1), (.int (2 : Int32)), (.int r)])) (fun t kt => XS.iload X20.here hx rfl (hb hby at_58) rfl kt) ?_
      refine Go.stat X20 hx hZ hown (hw _ (List.mem_of_getElem? (i := 22) rfl)) (hw _ (List.mem_of_getElem? (i := 23) rfl)) (hw _ (List.mem_of_getElem? (i := 3) rfl)) (hw _ (List.mem_of_getElem? (i := 24) rfl)) (by decide) (argsL := [(.int (2 : Int32)), (.int p1), (.int p1)]) (rest := [(.int r)]) (rmE2 l Z a0 hw p1 p1 r h0 n0 Z0 hr) e20 rfl (by rw [hml]; rfl) pd__III_Z rfl (hb hby at_60) 1 (Nat.le_refl _) (by decide) (by decide) (by decide) (by decide) ?_
      intro v21 T21 L21 X21 hQ21
      obtain ⟨hv21, N21', e21⟩ := hQ21
      subst hv21
      have N21 := Fr.app N20 N21'
      show Go pP eE below _ (T21.setTop (mkF m 63 #[.val (.int p0), .val (.int p1), .val (.int p2), .val (.int p3), .val (.int (2 : Int32)), .val (.int (1 : Int32)), .val (.int p1), .val (.ref o2), .val (.int r)] [(.int r), (.int r)]))
      refine Go.st (S' := T21.setTop (mkF m 66 #[.val (.int p0), .val (.int p1), .val (.int p2), .val (.int p3), .val (.int (2 : Int32)), .val (.int (1 : Int32)), .val (.int p1), .val (.ref o2), .val (.int r)] [])) (fun t kt => XS.icmpNo X21.here hx rfl (hb hby at_63) rfl (XT.ii_ne_f rfl) kt) ?_
      refine Go.st (S' := T21.setTop (mkF m 67 #[.val (.int p0), .val (.int p1), .val (.int p2), .val (.int p3), .val (.int (2 : Int32)), .val (.int (1 : Int32)), .val (.int p1), .val (.ref o2), .val (.int r)] [(.int (1 : Int32))])) (fun t kt => XS.iconst X21.here hx rfl (hb hby at_66) kt) ?_
      refine Go.st (S' := T21.setTop (mkF m 71 #[.val (.int p0), .val (.int p1), .val (.int p2), .val (.int p3), .val (.int (2 : Int32)), .val (.int (1 : Int32)), .val (.int p1), .val (.ref o2), .val (.int r)] [(.int (1 : Int32))])) (fun t kt => XS.goto X21.here hx rfl (pc0 := 67) (pc' := 71) rfl (hb hby at_67) (by decide) (by decide) kt) ?_
      exact ret_b X21 hx hlk hret (hb hby at_71) (by decide) (by decide) (⟨rfl, N21⟩)
  · rw [hi3]
    show Go pP eE below _ (T.setTop (mkF m 9 #[.val (.int p0), .val (.int p1), .val (.int p2), .val (.int p3), .val (.int (3 : Int32)), .unset, .unset, .unset, .unset] []))
    refine Go.st (S' := T.setTop (mkF m 10 #[.val (.int p0), .val (.int p1), .val (.int p2), .val (.int p3), .val (.int (3 : Int32)), .unset, .unset, .unset, .unset] [(.int p3)])) (fun t kt => XS.iloadN X.here hx rfl (hb hby at_9) rfl kt) ?_
    refine Go.st (S' := T.setTop (mkF m 11 #[.val (.int p0), .val (.int p1), .val (.int p2), .val (.int p3), .val (.int (3 : Int32)), .unset, .unset, .unset, .unset] [(.int (1 : Int32)), (.int p3)])) (fun t kt => XS.iconst X.here hx rfl (hb hby at_10) kt) ?_
    refine Go.st (S' := T.setTop (mkF m 12 #[.val (.int p0), .val (.int p1), .val (.int p2), .val (.int p3), .val (.int (3 : Int32)), .unset, .unset, .unset, .unset] [(.int (p3 &&& (1 : Int32)))])) (fun t kt => XS.iand X.here hx rfl (hb hby at_11) rfl kt) ?_
    by_cases hc12_22 : (p3 &&& (1 : Int32)) = 0
    · refine Go.st (S' := T.setTop (mkF m 19 #[.val (.int p0), .val (.int p1), .val (.int p2), .val (.int p3), .val (.int (3 : Int32)), .unset, .unset, .unset, .unset] [])) (fun t kt => XS.ifYes X.here hx rfl (pc0 := 12) (pc' := 19) rfl (hb hby at_12) rfl (XT.i0_eq_t hc12_22) (by decide) (by decide) kt) ?_
      refine Go.st (S' := T.setTop (mkF m 20 #[.val (.int p0), .val (.int p1), .val (.int p2), .val (.int p3), .val (.int (3 : Int32)), .unset, .unset, .unset, .unset] [(.int (0 : Int32))])) (fun t kt => XS.iconst X.here hx rfl (hb hby at_19) kt) ?_
      refine Go.st (S' := T.setTop (mkF m 22 #[.val (.int p0), .val (.int p1), .val (.int p2), .val (.int p3), .val (.int (3 : Int32)), .val (.int (0 : Int32)), .unset, .unset, .unset] [])) (fun t kt => XS.istore X.here hx rfl (hb hby at_20) rfl rfl kt) ?_
      refine Go.st (S' := T.setTop (mkF m 24 #[.val (.int p0), .val (.int p1), .val (.int p2), .val (.int p3), .val (.int (3 : Int32)), .val (.int (0 : Int32)), .unset, .unset, .unset] [(.int (0 : Int32))])) (fun t kt => XS.iload X.here hx rfl (hb hby at_22) rfl kt) ?_
      refine Go.st (S' := T.setTop (mkF m 31 #[.val (.int p0), .val (.int p1), .val (.int p2), .val (.int p3), .val (.int (3 : Int32)), .val (.int (0 : Int32)), .unset, .unset, .unset] [])) (fun t kt => XS.ifYes X.here hx rfl (pc0 := 24) (pc' := 31) rfl (hb hby at_24) rfl (XT.i0_eq_t (by decide)) (by decide) (by decide) kt) ?_
      refine Go.st (S' := T.setTop (mkF m 32 #[.val (.int p0), .val (.int p1), .val (.int p2), .val (.int p3), .val (.int (3 : Int32)), .val (.int (0 : Int32)), .unset, .unset, .unset] [(.int p2)])) (fun t kt => XS.iloadN X.here hx rfl (hb hby at_31) rfl kt) ?_
      refine Go.st (S' := T.setTop (mkF m 34 #[.val (.int p0), .val (.int p1), .val (.int p2), .val (.int p3), .val (.int (3 : Int32)), .val (.int (0 : Int32)), .val (.int p2), .unset, .unset] [])) (fun t kt => XS.istore X.here hx rfl (hb hby at_32) rfl rfl kt) ?_
      refine Go.st (S' := T.setTop (mkF m 36 #[.val (.int p0), .val (.int p1), .val (.int p2), .val (.int p3), .val (.int (3 : Int32)), .val (.int (0 : Int32)), .val (.int p2), .unset, .unset] [(.int (3 : Int32))])) (fun t kt => XS.iload X.here hx rfl (hb hby at_34) rfl kt) ?_
      refine Go.stat X hx hZ hown (hw _ (List.mem_of_getElem? (i := 1) rfl)) (hw _ (List.mem_of_getElem? (i := 2) rfl)) (hw _ (List.mem_of_getElem? (i := 3) rfl)) (hw _ (List.mem_of_getElem? (i := 4) rfl)) (by decide) (argsL := [(.int (3 : Int32))]) (rest := []) (rmP3 l Z a0 hw o3 h0 n0 Z0 S_3) eT rfl (by rw [hml]; rfl) pd__I_Lcom_example_sunder_sunder_query_Condition_Operator_ rfl (hb hby at_36) 0 (Nat.le_refl _) (by decide) (by decide) (by decide) (by decide) ?_
      intro v23 T23 L23 X23 hQ23
      obtain ⟨hv23, N23', e23⟩ := hQ23
      subst hv23
      have N23 := Fr.app N0 N23'
      show Go pP eE below _ (T23.setTop (mkF m 39 #[.val (.int p0), .val (.int p1), .val (.int p2), .val (.int p3), .val (.int (3 : Int32)), .val (.int (0 : Int32)), .val (.int p2), .unset, .unset] [(.ref o3)]))
      refine Go.st (S' := T23.setTop (mkF m 41 #[.val (.int p0), .val (.int p1), .val (.int p2), .val (.int p3), .val (.int (3 : Int32)), .val (.int (0 : Int32)), .val (.int p2), .val (.ref o3), .unset] [])) (fun t kt => XS.astore X23.here hx rfl (hb hby at_39) rfl rfl rfl kt) ?_
      refine Go.st (S' := T23.setTop (mkF m 43 #[.val (.int p0), .val (.int p1), .val (.int p2), .val (.int p3), .val (.int (3 : Int32)), .val (.int (0 : Int32)), .val (.int p2), .val (.ref o3), .unset] [(.ref o3)])) (fun t kt => XS.aload X23.here hx rfl (hb hby at_41) rfl rfl kt) ?_
      refine Go.st (S' := T23.setTop (mkF m 44 #[.val (.int p0), .val (.int p1), .val (.int p2), .val (.int p3), .val (.int (3 : Int32)), .val (.int (0 : Int32)), .val (.int p2), .val (.ref o3), .unset] [(.int p1), (.ref o3)])) (fun t kt => XS.iloadN X23.here hx rfl (hb hby at_43) rfl kt) ?_
      refine Go.st (S' := T23.setTop (mkF m 45 #[.val (.int p0), .val (.int p1), .val (.int p2), .val (.int p3), .val (.int (3 : Int32)), .val (.int (0 : Int32)), .val (.int p2), .val (.ref o3), .unset] [(.double (FP.i2d p1)), (.ref o3)])) (fun t kt => XS.i2dS X23.here hx rfl (hb hby at_44) rfl rfl kt) ?_
      refine Go.st (S' := T23.setTop (mkF m 47 #[.val (.int p0), .val (.int p1), .val (.int p2), .val (.int p3), .val (.int (3 : Int32)), .val (.int (0 : Int32)), .val (.int p2), .val (.ref o3), .unset] [(.int p2), (.double (FP.i2d p1)), (.ref o3)])) (fun t kt => XS.iload X23.here hx rfl (hb hby at_45) rfl kt) ?_
      refine Go.st (S' := T23.setTop (mkF m 48 #[.val (.int p0), .val (.int p1), .val (.int p2), .val (.int p3), .val (.int (3 : Int32)), .val (.int (0 : Int32)), .val (.int p2), .val (.ref o3), .unset] [(.double (FP.i2d p2)), (.double (FP.i2d p1)), (.ref o3)])) (fun t kt => XS.i2dS X23.here hx rfl (hb hby at_47) rfl rfl kt) ?_
      obtain ⟨r, hr⟩ : ∃ r : Int32, r = if ¬ p2 < p1 then 1 else 0 := ⟨_, rfl⟩
      refine Go.virt X23 hx hZ hown (hw _ (List.mem_of_getElem? (i := 8) rfl)) (hw _ (List.mem_of_getElem? (i := 9) rfl)) (notFace_of_selects (mvT (args := #[]) hZ (hw _ (List.mem_of_getElem? (i := 11) rfl)))) (hw _ (List.mem_of_getElem? (i := 11) rfl)) (hw _ (List.mem_of_getElem? (i := 10) rfl)) (hw _ (List.mem_of_getElem? (i := 12) rfl)) (hw _ (List.mem_of_getElem? (i := 6) rfl)) (by decide) (b := o3) (argsL := [(.double (FP.i2d p1)), (.double (FP.i2d p2))]) (rest := []) (rmH3 l Z a0 hw o3 (FP.i2d p1) (FP.i2d p2) p1 p2 r h0 n0 Z0 E_3 F_3 rfl rfl hr) e23 E_3 rfl (by rw [hml]; rfl) pd__DD_Z rfl (hb hby at_48) 0 (Nat.le_refl _) (by decide) (by decide) (by decide) (by decide) ?_
      intro v24 T24 L24 X24 hQ24
      obtain ⟨hv24, N24', e24⟩ := hQ24
      subst hv24
      have N24 := Fr.app N23 N24'
      show Go pP eE below _ (T24.setTop (mkF m 51 #[.val (.int p0), .val (.int p1), .val (.int p2), .val (.int p3), .val (.int (3 : Int32)), .val (.int (0 : Int32)), .val (.int p2), .val (.ref o3), .unset] [(.int r)]))
      refine Go.st (S' := T24.setTop (mkF m 53 #[.val (.int p0), .val (.int p1), .val (.int p2), .val (.int p3), .val (.int (3 : Int32)), .val (.int (0 : Int32)), .val (.int p2), .val (.ref o3), .val (.int r)] [])) (fun t kt => XS.istore X24.here hx rfl (hb hby at_51) rfl rfl kt) ?_
      refine Go.st (S' := T24.setTop (mkF m 55 #[.val (.int p0), .val (.int p1), .val (.int p2), .val (.int p3), .val (.int (3 : Int32)), .val (.int (0 : Int32)), .val (.int p2), .val (.ref o3), .val (.int r)] [(.int r)])) (fun t kt => XS.iload X24.here hx rfl (hb hby at_53) rfl kt) ?_
      refine Go.st (S' := T24.setTop (mkF m 57 #[.val (.int p0), .val (.int p1), .val (.int p2), .val (.int p3), .val (.int (3 : Int32)), .val (.int (0 : Int32)), .val (.int p2), .val (.ref o3), .val (.int r)] [(.int (3 : Int32)), (.int r)])) (fun t kt => XS.iload X24.here hx rfl (hb hby at_55) rfl kt) ?_
      refine Go.st (S' := T24.setTop (mkF m 58 #[.val (.int p0), .val (.int p1), .val (.int p2), .val (.int p3), .val (.int (3 : Int32)), .val (.int (0 : Int32)), .val (.int p2), .val (.ref o3), .val (.int r)] [(.int p1), (.int (3 : Int32)), (.int r)])) (fun t kt => XS.iloadN X24.here hx rfl (hb hby at_57) rfl kt) ?_
      refine Go.st (S' := T24.setTop (mkF m 60 #[.val (.int p0), .val (.int p1), .val (.int p2), .val (.int p3), .val (.int (3 : Int32)), .val (.int (0 : Int32)), .val (.int p2), .val (.ref o3), .val (.int r)] [(.int p2), (.int p1), (.int (3 : Int32)), (.int r)])) (fun t kt => XS.iload X24.here hx rfl (hb hby at_58) rfl kt) ?_
      refine Go.stat X24 hx hZ hown (hw _ (List.mem_of_getElem? (i := 22) rfl)) (hw _ (List.mem_of_getElem? (i := 23) rfl)) (hw _ (List.mem_of_getElem? (i := 3) rfl)) (hw _ (List.mem_of_getElem? (i := 24) rfl)) (by decide) (argsL := [(.int (3 : Int32)), (.int p1), (.int p2)]) (rest := [(.int r)]) (rmE3 l Z a0 hw p1 p2 r h0 n0 Z0 hr) e24 rfl (by rw [hml]; rfl) pd__III_Z rfl (hb hby at_60) 1 (Nat.le_refl _) (by decide) (by decide) (by decide) (by decide) ?_
      intro v25 T25 L25 X25 hQ25
      obtain ⟨hv25, N25', e25⟩ := hQ25
      subst hv25
      have N25 := Fr.app N24 N25'
      show Go pP eE below _ (T25.setTop (mkF m 63 #[.val (.int p0), .val (.int p1), .val (.int p2), .val (.int p3), .val (.int (3 : Int32)), .val (.int (0 : Int32)), .val (.int p2), .val (.ref o3), .val (.int r)] [(.int r), (.int r)]))
      refine Go.st (S' := T25.setTop (mkF m 66 #[.val (.int p0), .val (.int p1), .val (.int p2), .val (.int p3), .val (.int (3 : Int32)), .val (.int (0 : Int32)), .val (.int p2), .val (.ref o3), .val (.int r)] [])) (fun t kt => XS.icmpNo X25.here hx rfl (hb hby at_63) rfl (XT.ii_ne_f rfl) kt) ?_
      refine Go.st (S' := T25.setTop (mkF m 67 #[.val (.int p0), .val (.int p1), .val (.int p2), .val (.int p3), .val (.int (3 : Int32)), .val (.int (0 : Int32)), .val (.int p2), .val (.ref o3), .val (.int r)] [(.int (1 : Int32))])) (fun t kt => XS.iconst X25.here hx rfl (hb hby at_66) kt) ?_
      refine Go.st (S' := T25.setTop (mkF m 71 #[.val (.int p0), .val (.int p1), .val (.int p2), .val (.int p3), .val (.int (3 : Int32)), .val (.int (0 : Int32)), .val (.int p2), .val (.ref o3), .val (.int r)] [(.int (1 : Int32))])) (fun t kt => XS.goto X25.here hx rfl (pc0 := 67) (pc' := 71) rfl (hb hby at_67) (by decide) (by decide) kt) ?_
      exact ret_b X25 hx hlk hret (hb hby at_71) (by decide) (by decide) (⟨rfl, N25⟩)
    · refine Go.st (S' := T.setTop (mkF m 15 #[.val (.int p0), .val (.int p1), .val (.int p2), .val (.int p3), .val (.int (3 : Int32)), .unset, .unset, .unset, .unset] [])) (fun t kt => XS.ifNo X.here hx rfl (hb hby at_12) rfl (XT.i0_eq_f hc12_22) kt) ?_
      refine Go.st (S' := T.setTop (mkF m 16 #[.val (.int p0), .val (.int p1), .val (.int p2), .val (.int p3), .val (.int (3 : Int32)), .unset, .unset, .unset, .unset] [(.int (1 : Int32))])) (fun t kt => XS.iconst X.here hx rfl (hb hby at_15) kt) ?_
      refine Go.st (S' := T.setTop (mkF m 20 #[.val (.int p0), .val (.int p1), .val (.int p2), .val (.int p3), .val (.int (3 : Int32)), .unset, .unset, .unset, .unset] [(.int (1 : Int32))])) (fun t kt => XS.goto X.here hx rfl (pc0 := 16) (pc' := 20) rfl (hb hby at_16) (by decide) (by decide) kt) ?_
      refine Go.st (S' := T.setTop (mkF m 22 #[.val (.int p0), .val (.int p1), .val (.int p2), .val (.int p3), .val (.int (3 : Int32)), .val (.int (1 : Int32)), .unset, .unset, .unset] [])) (fun t kt => XS.istore X.here hx rfl (hb hby at_20) rfl rfl kt) ?_
      refine Go.st (S' := T.setTop (mkF m 24 #[.val (.int p0), .val (.int p1), .val (.int p2), .val (.int p3), .val (.int (3 : Int32)), .val (.int (1 : Int32)), .unset, .unset, .unset] [(.int (1 : Int32))])) (fun t kt => XS.iload X.here hx rfl (hb hby at_22) rfl kt) ?_
      refine Go.st (S' := T.setTop (mkF m 27 #[.val (.int p0), .val (.int p1), .val (.int p2), .val (.int p3), .val (.int (3 : Int32)), .val (.int (1 : Int32)), .unset, .unset, .unset] [])) (fun t kt => XS.ifNo X.here hx rfl (hb hby at_24) rfl (XT.i0_eq_f (by decide)) kt) ?_
      refine Go.st (S' := T.setTop (mkF m 28 #[.val (.int p0), .val (.int p1), .val (.int p2), .val (.int p3), .val (.int (3 : Int32)), .val (.int (1 : Int32)), .unset, .unset, .unset] [(.int p1)])) (fun t kt => XS.iloadN X.here hx rfl (hb hby at_27) rfl kt) ?_
      refine Go.st (S' := T.setTop (mkF m 32 #[.val (.int p0), .val (.int p1), .val (.int p2), .val (.int p3), .val (.int (3 : Int32)), .val (.int (1 : Int32)), .unset, .unset, .unset] [(.int p1)])) (fun t kt => XS.goto X.here hx rfl (pc0 := 28) (pc' := 32) rfl (hb hby at_28) (by decide) (by decide) kt) ?_
      refine Go.st (S' := T.setTop (mkF m 34 #[.val (.int p0), .val (.int p1), .val (.int p2), .val (.int p3), .val (.int (3 : Int32)), .val (.int (1 : Int32)), .val (.int p1), .unset, .unset] [])) (fun t kt => XS.istore X.here hx rfl (hb hby at_32) rfl rfl kt) ?_
      refine Go.st (S' := T.setTop (mkF m 36 #[.val (.int p0), .val (.int p1), .val (.int p2), .val (.int p3), .val (.int (3 : Int32)), .val (.int (1 : Int32)), .val (.int p1), .unset, .unset] [(.int (3 : Int32))])) (fun t kt => XS.iload X.here hx rfl (hb hby at_34) rfl kt) ?_
      refine Go.stat X hx hZ hown (hw _ (List.mem_of_getElem? (i := 1) rfl)) (hw _ (List.mem_of_getElem? (i := 2) rfl)) (hw _ (List.mem_of_getElem? (i := 3) rfl)) (hw _ (List.mem_of_getElem? (i := 4) rfl)) (by decide) (argsL := [(.int (3 : Int32))]) (rest := []) (rmP3 l Z a0 hw o3 h0 n0 Z0 S_3) eT rfl (by rw [hml]; rfl) pd__I_Lcom_example_sunder_sunder_query_Condition_Operator_ rfl (hb hby at_36) 0 (Nat.le_refl _) (by decide) (by decide) (by decide) (by decide) ?_
      intro v26 T26 L26 X26 hQ26
      obtain ⟨hv26, N26', e26⟩ := hQ26
      subst hv26
      have N26 := Fr.app N0 N26'
      show Go pP eE below _ (T26.setTop (mkF m 39 #[.val (.int p0), .val (.int p1), .val (.int p2), .val (.int p3), .val (.int (3 : Int32)), .val (.int (1 : Int32)), .val (.int p1), .unset, .unset] [(.ref o3)]))
      refine Go.st (S' := T26.setTop (mkF m 41 #[.val (.int p0), .val (.int p1), .val (.int p2), .val (.int p3), .val (.int (3 : Int32)), .val (.int (1 : Int32)), .val (.int p1), .val (.ref o3), .unset] [])) (fun t kt => XS.astore X26.here hx rfl (hb hby at_39) rfl rfl rfl kt) ?_
      refine Go.st (S' := T26.setTop (mkF m 43 #[.val (.int p0), .val (.int p1), .val (.int p2), .val (.int p3), .val (.int (3 : Int32)), .val (.int (1 : Int32)), .val (.int p1), .val (.ref o3), .unset] [(.ref o3)])) (fun t kt => XS.aload X26.here hx rfl (hb hby at_41) rfl rfl kt) ?_
      refine Go.st (S' := T26.setTop (mkF m 44 #[.val (.int p0), .val (.int p1), .val (.int p2), .val (.int p3), .val (.int (3 : Int32)), .val (.int (1 : Int32)), .val (.int p1), .val (.ref o3), .unset] [(.int p1), (.ref o3)])) (fun t kt => XS.iloadN X26.here hx rfl (hb hby at_43) rfl kt) ?_
      refine Go.st (S' := T26.setTop (mkF m 45 #[.val (.int p0), .val (.int p1), .val (.int p2), .val (.int p3), .val (.int (3 : Int32)), .val (.int (1 : Int32)), .val (.int p1), .val (.ref o3), .unset] [(.double (FP.i2d p1)), (.ref o3)])) (fun t kt => XS.i2dS X26.here hx rfl (hb hby at_44) rfl rfl kt) ?_
      refine Go.st (S' := T26.setTop (mkF m 47 #[.val (.int p0), .val (.int p1), .val (.int p2), .val (.int p3), .val (.int (3 : Int32)), .val (.int (1 : Int32)), .val (.int p1), .val (.ref o3), .unset] [(.int p1), (.double (FP.i2d p1)), (.ref o3)])) (fun t kt => XS.iload X26.here hx rfl (hb hby at_45) rfl kt) ?_
      refine Go.st (S' := T26.setTop (mkF m 48 #[.val (.int p0), .val (.int p1), .val (.int p2), .val (.int p3), .val (.int (3 : Int32)), .val (.int (1 : Int32)), .val (.int p1), .val (.ref o3), .unset] [(.double (FP.i2d p1)), (.double (FP.i2d p1)), (.ref o3)])) (fun t kt => XS.i2dS X26.here hx rfl (hb hby at_47) rfl rfl kt) ?_
      obtain ⟨r, hr⟩ : ∃ r : Int32, r = if ¬ p1 < p1 then 1 else 0 := ⟨_, rfl⟩
      refine Go.virt X26 hx hZ hown (hw _ (List.mem_of_getElem? (i := 8) rfl)) (hw _ (List.mem_of_getElem? (i := 9) rfl)) (notFace_of_selects (mvT (args := #[]) hZ (hw _ (List.mem_of_getElem? (i := 11) rfl)))) (hw _ (List.mem_of_getElem? (i := 11) rfl)) (hw _ (List.mem_of_getElem? (i := 10) rfl)) (hw _ (List.mem_of_getElem? (i := 12) rfl)) (hw _ (List.mem_of_getElem? (i := 6) rfl)) (by decide) (b := o3) (argsL := [(.double (FP.i2d p1)), (.double (FP.i2d p1))]) (rest := []) (rmH3 l Z a0 hw o3 (FP.i2d p1) (FP.i2d p1) p1 p1 r h0 n0 Z0 E_3 F_3 rfl rfl hr) e26 E_3 rfl (by rw [hml]; rfl) pd__DD_Z rfl (hb hby at_48) 0 (Nat.le_refl _) (by decide) (by decide) (by decide) (by decide) ?_
      intro v27 T27 L27 X27 hQ27
      obtain ⟨hv27, N27', e27⟩ := hQ27
      subst hv27
      have N27 := Fr.app N26 N27'
      show Go pP eE below _ (T27.setTop (mkF m 51 #[.val (.int p0), .val (.int p1), .val (.int p2), .val (.int p3), .val (.int (3 : Int32)), .val (.int (1 : Int32)), .val (.int p1), .val (.ref o3), .unset] [(.int r)]))
      refine Go.st (S' := T27.setTop (mkF m 53 #[.val (.int p0), .val (.int p1), .val (.int p2), .val (.int p3), .val (.int (3 : Int32)), .val (.int (1 : Int32)), .val (.int p1), .val (.ref o3), .val (.int r)] [])) (fun t kt => XS.istore X27.here hx rfl (hb hby at_51) rfl rfl kt) ?_
      refine Go.st (S' := T27.setTop (mkF m 55 #[.val (.int p0), .val (.int p1), .val (.int p2), .val (.int p3), .val (.int (3 : Int32)), .val (.int (1 : Int32)), .val (.int p1), .val (.ref o3), .val (.int r)] [(.int r)])) (fun t kt => XS.iload X27.here hx rfl (hb hby at_53) rfl kt) ?_
      refine Go.st (S' := T27.setTop (mkF m 57 #[.val (.int p0), .val (.int p1), .val (.int p2), .val (.int p3), .val (.int (3 : Int32)), .val (.int (1 : Int32)), .val (.int p1), .val (.ref o3), .val (.int r)] [(.int (3 : Int32)), (.int r)])) (fun t kt => XS.iload X27.here hx rfl (hb hby at_55) rfl kt) ?_
      refine Go.st (S' := T27.setTop (mkF m 58 #[.val (.int p0), .val (.int p1), .val (.int p2), .val (.int p3), .val (.int (3 : Int32)), .val (.int (1 : Int32)), .val (.int p1), .val (.ref o3), .val (.int r)] [(.int p1), (.int (3 : Int32)), (.int r)])) (fun t kt => XS.iloadN X27.here hx rfl (hb hby at_57) rfl kt) ?_
      refine Go.st (S' := T27.setTop (mkF m 60 #[.val (.int p0), .val (.int p1), .val (.int p2), .val (.int p3), .val (.int (3 : Int32)), .val (.int (1 : Int32)), .val (.int p1), .val (.ref o3), .val (.int r)] [(.int p1), (.int p1), (.int (3 : Int32)), (.int r)])) (fun t kt => XS.iload X27.here hx rfl (hb hby at_58) rfl kt) ?_
      refine Go.stat X27 hx hZ hown (hw _ (List.mem_of_getElem? (i := 22) rfl)) (hw _ (List.mem_of_getElem? (i := 23) rfl)) (hw _ (List.mem_of_getElem? (i := 3) rfl)) (hw _ (List.mem_of_getElem? (i := 24) rfl)) (by decide) (argsL := [(.int (3 : Int32)), (.int p1), (.int p1)]) (rest := [(.int r)]) (rmE3 l Z a0 hw p1 p1 r h0 n0 Z0 hr) e27 rfl (by rw [hml]; rfl) pd__III_Z rfl (hb hby at_60) 1 (Nat.le_refl _) (by decide) (by decide) (by decide) (by decide) ?_
      intro v28 T28 L28 X28 hQ28
      obtain ⟨hv28, N28', e28⟩ := hQ28
      subst hv28
      have N28 := Fr.app N27 N28'
      show Go pP eE below _ (T28.setTop (mkF m 63 #[.val (.int p0), .val (.int p1), .val (.int p2), .val (.int p3), .val (.int (3 : Int32)), .val (.int (1 : Int32)), .val (.int p1), .val (.ref o3), .val (.int r)] [(.int r), (.int r)]))
      refine Go.st (S' := T28.setTop (mkF m 66 #[.val (.int p0), .val (.int p1), .val (.int p2), .val (.int p3), .val (.int (3 : Int32)), .val (.int (1 : Int32)), .val (.int p1), .val (.ref o3), .val (.int r)] [])) (fun t kt => XS.icmpNo X28.here hx rfl (hb hby at_63) rfl (XT.ii_ne_f rfl) kt) ?_
      refine Go.st (S' := T28.setTop (mkF m 67 #[.val (.int p0), .val (.int p1), .val (.int p2), .val (.int p3), .val (.int (3 : Int32)), .val (.int (1 : Int32)), .val (.int p1), .val (.ref o3), .val (.int r)] [(.int (1 : Int32))])) (fun t kt => XS.iconst X28.here hx rfl (hb hby at_66) kt) ?_
      refine Go.st (S' := T28.setTop (mkF m 71 #[.val (.int p0), .val (.int p1), .val (.int p2), .val (.int p3), .val (.int (3 : Int32)), .val (.int (1 : Int32)), .val (.int p1), .val (.ref o3), .val (.int r)] [(.int (1 : Int32))])) (fun t kt => XS.goto X28.here hx rfl (pc0 := 67) (pc' := 71) rfl (hb hby at_67) (by decide) (by decide) kt) ?_
      exact ret_b X28 hx hlk hret (hb hby at_71) (by decide) (by decide) (⟨rfl, N28⟩)
  · rw [hi4]
    show Go pP eE below _ (T.setTop (mkF m 9 #[.val (.int p0), .val (.int p1), .val (.int p2), .val (.int p3), .val (.int (4 : Int32)), .unset, .unset, .unset, .unset] []))
    refine Go.st (S' := T.setTop (mkF m 10 #[.val (.int p0), .val (.int p1), .val (.int p2), .val (.int p3), .val (.int (4 : Int32)), .unset, .unset, .unset, .unset] [(.int p3)])) (fun t kt => XS.iloadN X.here hx rfl (hb hby at_9) rfl kt) ?_
    refine Go.st (S' := T.setTop (mkF m 11 #[.val (.int p0), .val (.int p1), .val (.int p2), .val (.int p3), .val (.int (4 : Int32)), .unset, .unset, .unset, .unset] [(.int (1 : Int32)), (.int p3)])) (fun t kt => XS.iconst X.here hx rfl (hb hby at_10) kt) ?_
    refine Go.st (S' := T.setTop (mkF m 12 #[.val (.int p0), .val (.int p1), .val (.int p2), .val (.int p3), .val (.int (4 : Int32)), .unset, .unset, .unset, .unset] [(.int (p3 &&& (1 : Int32)))])) (fun t kt => XS.iand X.here hx rfl (hb hby at_11) rfl kt) ?_
    by_cases hc12_29 : (p3 &&& (1 : Int32)) = 0
    · refine Go.st (S' := T.setTop (mkF m 19 #[.val (.int p0), .val (.int p1), .val (.int p2), .val (.int p3), .val (.int (4 : Int32)), .unset, .unset, .unset, .unset] [])) (fun t kt => XS.ifYes X.here hx rfl (pc0 := 12) (pc' := 19) rfl (hb hby at_12) rfl (XT.i0_eq_t hc12_29) (by decide) (by decide) kt) ?_
      refine Go.st (S' := T.setTop (mkF m 20 #[.val (.int p0), .val (.int p1), .val (.int p2), .val (.int p3), .val (.int (4 : Int32)), .unset, .unset, .unset, .unset] [(.int (0 : Int32))])) (fun t kt => XS.iconst X.here hx rfl (hb hby at_19) kt) ?_
      refine Go.st (S' := T.setTop (mkF m 22 #[.val (.int p0), .val (.int p1), .val (.int p2), .val (.int p3), .val (.int (4 : Int32)), .val (.int (0 : Int32)), .unset, .unset, .unset] [])) (fun t kt => XS.istore X.here hx rfl (hb hby at_20) rfl rfl kt) ?_
      refine Go.st (S' := T.setTop (mkF m 24 #[.val (.int p0), .val (.int p1), .val (.int p2), .val (.int p3), .val (.int (4 : Int32)), .val (.int (0 : Int32)), .unset, .unset, .unset] [(.int (0 : Int32))])) (fun t kt => XS.iload X.here hx rfl (hb hby at_22) rfl kt) ?_
      refine Go.st (S' := T.setTop (mkF m 31 #[.val (.int p0), .val (.int p1), .val (.int p2), .val (.int p3), .val (.int (4 : Int32)), .val (.int (0 : Int32)), .unset, .unset, .unset] [])) (fun t kt => XS.ifYes X.here hx rfl (pc0 := 24) (pc' := 31) rfl (hb hby at_24) rfl (XT.i0_eq_t (by decide)) (by decide) (by decide) kt) ?_
      refine Go.st (S' := T.setTop (mkF m 32 #[.val (.int p0), .val (.int p1), .val (.int p2), .val (.int p3), .val (.int (4 : Int32)), .val (.int (0 : Int32)), .unset, .unset, .unset] [(.int p2)])) (fun t kt => XS.iloadN X.here hx rfl (hb hby at_31) rfl kt) ?_
      refine Go.st (S' := T.setTop (mkF m 34 #[.val (.int p0), .val (.int p1), .val (.int p2), .val (.int p3), .val (.int (4 : Int32)), .val (.int (0 : Int32)), .val (.int p2), .unset, .unset] [])) (fun t kt => XS.istore X.here hx rfl (hb hby at_32) rfl rfl kt) ?_
      refine Go.st (S' := T.setTop (mkF m 36 #[.val (.int p0), .val (.int p1), .val (.int p2), .val (.int p3), .val (.int (4 : Int32)), .val (.int (0 : Int32)), .val (.int p2), .unset, .unset] [(.int (4 : Int32))])) (fun t kt => XS.iload X.here hx rfl (hb hby at_34) rfl kt) ?_
      refine Go.stat X hx hZ hown (hw _ (List.mem_of_getElem? (i := 1) rfl)) (hw _ (List.mem_of_getElem? (i := 2) rfl)) (hw _ (List.mem_of_getElem? (i := 3) rfl)) (hw _ (List.mem_of_getElem? (i := 4) rfl)) (by decide) (argsL := [(.int (4 : Int32))]) (rest := []) (rmP4 l Z a0 hw o4 h0 n0 Z0 S_4) eT rfl (by rw [hml]; rfl) pd__I_Lcom_example_sunder_sunder_query_Condition_Operator_ rfl (hb hby at_36) 0 (Nat.le_refl _) (by decide) (by decide) (by decide) (by decide) ?_
      intro v30 T30 L30 X30 hQ30
      obtain ⟨hv30, N30', e30⟩ := hQ30
      subst hv30
      have N30 := Fr.app N0 N30'
      show Go pP eE below _ (T30.setTop (mkF m 39 #[.val (.int p0), .val (.int p1), .val (.int p2), .val (.int p3), .val (.int (4 : Int32)), .val (.int (0 : Int32)), .val (.int p2), .unset, .unset] [(.ref o4)]))
      refine Go.st (S' := T30.setTop (mkF m 41 #[.val (.int p0), .val (.int p1), .val (.int p2), .val (.int p3), .val (.int (4 : Int32)), .val (.int (0 : Int32)), .val (.int p2), .val (.ref o4), .unset] [])) (fun t kt => XS.astore X30.here hx rfl (hb hby at_39) rfl rfl rfl kt) ?_
      refine Go.st (S' := T30.setTop (mkF m 43 #[.val (.int p0), .val (.int p1), .val (.int p2), .val (.int p3), .val (.int (4 : Int32)), .val (.int (0 : Int32)), .val (.int p2), .val (.ref o4), .unset] [(.ref o4)])) (fun t kt => XS.aload X30.here hx rfl (hb hby at_41) rfl rfl kt) ?_
      refine Go.st (S' := T30.setTop (mkF m 44 #[.val (.int p0), .val (.int p1), .val (.int p2), .val (.int p3), .val (.int (4 : Int32)), .val (.int (0 : Int32)), .val (.int p2), .val (.ref o4), .unset] [(.int p1), (.ref o4)])) (fun t kt => XS.iloadN X30.here hx rfl (hb hby at_43) rfl kt) ?_
      refine Go.st (S' := T30.setTop (mkF m 45 #[.val (.int p0), .val (.int p1), .val (.int p2), .val (.int p3), .val (.int (4 : Int32)), .val (.int (0 : Int32)), .val (.int p2), .val (.ref o4), .unset] [(.double (FP.i2d p1)), (.ref o4)])) (fun t kt => XS.i2dS X30.here hx rfl (hb hby at_44) rfl rfl kt) ?_
      refine Go.st (S' := T30.setTop (mkF m 47 #[.val (.int p0), .val (.int p1), .val (.int p2), .val (.int p3), .val (.int (4 : Int32)), .val (.int (0 : Int32)), .val (.int p2), .val (.ref o4), .unset] [(.int p2), (.double (FP.i2d p1)), (.ref o4)])) (fun t kt => XS.iload X30.here hx rfl (hb hby at_45) rfl kt) ?_
      refine Go.st (S' := T30.setTop (mkF m 48 #[.val (.int p0), .val (.int p1), .val (.int p2), .val (.int p3), .val (.int (4 : Int32)), .val (.int (0 : Int32)), .val (.int p2), .val (.ref o4), .unset] [(.double (FP.i2d p2)), (.double (FP.i2d p1)), (.ref o4)])) (fun t kt => XS.i2dS X30.here hx rfl (hb hby at_47) rfl rfl kt) ?_
      obtain ⟨r, hr⟩ : ∃ r : Int32, r = if p2 < p1 then 1 else 0 := ⟨_, rfl⟩
      refine Go.virt X30 hx hZ hown (hw _ (List.mem_of_getElem? (i := 8) rfl)) (hw _ (List.mem_of_getElem? (i := 9) rfl)) (notFace_of_selects (mvT (args := #[]) hZ (hw _ (List.mem_of_getElem? (i := 11) rfl)))) (hw _ (List.mem_of_getElem? (i := 11) rfl)) (hw _ (List.mem_of_getElem? (i := 10) rfl)) (hw _ (List.mem_of_getElem? (i := 12) rfl)) (hw _ (List.mem_of_getElem? (i := 6) rfl)) (by decide) (b := o4) (argsL := [(.double (FP.i2d p1)), (.double (FP.i2d p2))]) (rest := []) (rmH4 l Z a0 hw o4 (FP.i2d p1) (FP.i2d p2) p1 p2 r h0 n0 Z0 E_4 F_4 rfl rfl hr) e30 E_4 rfl (by rw [hml]; rfl) pd__DD_Z rfl (hb hby at_48) 0 (Nat.le_refl _) (by decide) (by decide) (by decide) (by decide) ?_
      intro v31 T31 L31 X31 hQ31
      obtain ⟨hv31, N31', e31⟩ := hQ31
      subst hv31
      have N31 := Fr.app N30 N31'
      show Go pP eE below _ (T31.setTop (mkF m 51 #[.val (.int p0), .val (.int p1), .val (.int p2), .val (.int p3), .val (.int (4 : Int32)), .val (.int (0 : Int32)), .val (.int p2), .val (.ref o4), .unset] [(.int r)]))
      refine Go.st (S' := T31.setTop (mkF m 53 #[.val (.int p0), .val (.int p1), .val (.int p2), .val (.int p3), .val (.int (4 : Int32)), .val (.int (0 : Int32)), .val (.int p2), .val (.ref o4), .val (.int r)] [])) (fun t kt => XS.istore X31.here hx rfl (hb hby at_51) rfl rfl kt) ?_
      refine Go.st (S' := T31.setTop (mkF m 55 #[.val (.int p0), .val (.int p1), .val (.int p2), .val (.int p3), .val (.int (4 : Int32)), .val (.int (0 : Int32)), .val (.int p2), .val (.ref o4), .val (.int r)] [(.int r)])) (fun t kt => XS.iload X31.here hx rfl (hb hby at_53) rfl kt) ?_
      refine Go.st (S' := T31.setTop (mkF m 57 #[.val (.int p0), .val (.int p1), .val (.int p2), .val (.int p3), .val (.int (4 : Int32)), .val (.int (0 : Int32)), .val (.int p2), .val (.ref o4), .val (.int r)] [(.int (4 : Int32)), (.int r)])) (fun t kt => XS.iload X31.here hx rfl (hb hby at_55) rfl kt) ?_
      refine Go.st (S' := T31.setTop (mkF m 58 #[.val (.int p0), .val (.int p1), .val (.int p2), .val (.int p3), .val (.int (4 : Int32)), .val (.int (0 : Int32)), .val (.int p2), .val (.ref o4), .val (.int r)] [(.int p1), (.int (4 : Int32)), (.int r)])) (fun t kt => XS.iloadN X31.here hx rfl (hb hby at_57) rfl kt) ?_
      refine Go.st (S' := T31.setTop (mkF m 60 #[.val (.int p0), .val (.int p1), .val (.int p2), .val (.int p3), .val (.int (4 : Int32)), .val (.int (0 : Int32)), .val (.int p2), .val (.ref o4), .val (.int r)] [(.int p2), (.int p1), (.int (4 : Int32)), (.int r)])) (fun t kt => XS.iload X31.here hx rfl (hb hby at_58) rfl kt) ?_
      refine Go.stat X31 hx hZ hown (hw _ (List.mem_of_getElem? (i := 22) rfl)) (hw _ (List.mem_of_getElem? (i := 23) rfl)) (hw _ (List.mem_of_getElem? (i := 3) rfl)) (hw _ (List.mem_of_getElem? (i := 24) rfl)) (by decide) (argsL := [(.int (4 : Int32)), (.int p1), (.int p2)]) (rest := [(.int r)]) (rmE4 l Z a0 hw p1 p2 r h0 n0 Z0 hr) e31 rfl (by rw [hml]; rfl) pd__III_Z rfl (hb hby at_60) 1 (Nat.le_refl _) (by decide) (by decide) (by decide) (by decide) ?_
      intro v32 T32 L32 X32 hQ32
      obtain ⟨hv32, N32', e32⟩ := hQ32
      subst hv32
      have N32 := Fr.app N31 N32'
      show Go pP eE below _ (T32.setTop (mkF m 63 #[.val (.int p0), .val (.int p1), .val (.int p2), .val (.int p3), .val (.int (4 : Int32)), .val (.int (0 : Int32)), .val (.int p2), .val (.ref o4), .val (.int r)] [(.int r), (.int r)]))
      refine Go.st (S' := T32.setTop (mkF m 66 #[.val (.int p0), .val (.int p1), .val (.int p2), .val (.int p3), .val (.int (4 : Int32)), .val (.int (0 : Int32)), .val (.int p2), .val (.ref o4), .val (.int r)] [])) (fun t kt => XS.icmpNo X32.here hx rfl (hb hby at_63) rfl (XT.ii_ne_f rfl) kt) ?_
      refine Go.st (S' := T32.setTop (mkF m 67 #[.val (.int p0), .val (.int p1), .val (.int p2), .val (.int p3), .val (.int (4 : Int32)), .val (.int (0 : Int32)), .val (.int p2), .val (.ref o4), .val (.int r)] [(.int (1 : Int32))])) (fun t kt => XS.iconst X32.here hx rfl (hb hby at_66) kt) ?_
      refine Go.st (S' := T32.setTop (mkF m 71 #[.val (.int p0), .val (.int p1), .val (.int p2), .val (.int p3), .val (.int (4 : Int32)), .val (.int (0 : Int32)), .val (.int p2), .val (.ref o4), .val (.int r)] [(.int (1 : Int32))])) (fun t kt => XS.goto X32.here hx rfl (pc0 := 67) (pc' := 71) rfl (hb hby at_67) (by decide) (by decide) kt) ?_
      exact ret_b X32 hx hlk hret (hb hby at_71) (by decide) (by decide) (⟨rfl, N32⟩)
    · refine Go.st (S' := T.setTop (mkF m 15 #[.val (.int p0), .val (.int p1), .val (.int p2), .val (.int p3), .val (.int (4 : Int32)), .unset, .unset, .unset, .unset] [])) (fun t kt => XS.ifNo X.here hx rfl (hb hby at_12) rfl (XT.i0_eq_f hc12_29) kt) ?_
      refine Go.st (S' := T.setTop (mkF m 16 #[.val (.int p0), .val (.int p1), .val (.int p2), .val (.int p3), .val (.int (4 : Int32)), .unset, .unset, .unset, .unset] [(.int (1 : Int32))])) (fun t kt => XS.iconst X.here hx rfl (hb hby at_15) kt) ?_
      refine Go.st (S' := T.setTop (mkF m 20 #[.val (.int p0), .val (.int p1), .val (.int p2), .val (.int p3), .val (.int (4 : Int32)), .unset, .unset, .unset, .unset] [(.int (1 : Int32))])) (fun t kt => XS.goto X.here hx rfl (pc0 := 16) (pc' := 20) rfl (hb hby at_16) (by decide) (by decide) kt) ?_
      refine Go.st (S' := T.setTop (mkF m 22 #[.val (.int p0), .val (.int p1), .val (.int p2), .val (.int p3), .val (.int (4 : Int32)), .val (.int (1 : Int32)), .unset, .unset, .unset] [])) (fun t kt => XS.istore X.here hx rfl (hb hby at_20) rfl rfl kt) ?_
      refine Go.st (S' := T.setTop (mkF m 24 #[.val (.int p0), .val (.int p1), .val (.int p2), .val (.int p3), .val (.int (4 : Int32)), .val (.int (1 : Int32)), .unset, .unset, .unset] [(.int (1 : Int32))])) (fun t kt => XS.iload X.here hx rfl (hb hby at_22) rfl kt) ?_
      refine Go.st (S' := T.setTop (mkF m 27 #[.val (.int p0), .val (.int p1), .val (.int p2), .val (.int p3), .val (.int (4 : Int32)), .val (.int (1 : Int32)), .unset, .unset, .unset] [])) (fun t kt => XS.ifNo X.here hx rfl (hb hby at_24) rfl (XT.i0_eq_f (by decide)) kt) ?_
      refine Go.st (S' := T.setTop (mkF m 28 #[.val (.int p0), .val (.int p1), .val (.int p2), .val (.int p3), .val (.int (4 : Int32)), .val (.int (1 : Int32)), .unset, .unset, .unset] [(.int p1)])) (fun t kt => XS.iloadN X.here hx rfl (hb hby at_27) rfl kt) ?_
      refine Go.st (S' := T.setTop (mkF m 32 #[.val (.int p0), .val (.int p1), .val (.int p2), .val (.int p3), .val (.int (4 : Int32)), .val (.int (1 : Int32)), .unset, .unset, .unset] [(.int p1)])) (fun t kt => XS.goto X.here hx rfl (pc0 := 28) (pc' := 32) rfl (hb hby at_28) (by decide) (by decide) kt) ?_
      refine Go.st (S' := T.setTop (mkF m 34 #[.val (.int p0), .val (.int p1), .val (.int p2), .val (.int p3), .val (.int (4 : Int32)), .val (.int (1 : Int32)), .val (.int p1), .unset, .unset] [])) (fun t kt => XS.istore X.here hx rfl (hb hby at_32) rfl rfl kt) ?_
      refine Go.st (S' := T.setTop (mkF m 36 #[.val (.int p0), .val (.int p1), .val (.int p2), .val (.int p3), .val (.int (4 : Int32)), .val (.int (1 : Int32)), .val (.int p1), .unset, .unset] [(.int (4 : Int32))])) (fun t kt => XS.iload X.here hx rfl (hb hby at_34) rfl kt) ?_
      refine Go.stat X hx hZ hown (hw _ (List.mem_of_getElem? (i := 1) rfl)) (hw _ (List.mem_of_getElem? (i := 2) rfl)) (hw _ (List.mem_of_getElem? (i := 3) rfl)) (hw _ (List.mem_of_getElem? (i := 4) rfl)) (by decide) (argsL := [(.int (4 : Int32))]) (rest := []) (rmP4 l Z a0 hw o4 h0 n0 Z0 S_4) eT rfl (by rw [hml]; rfl) pd__I_Lcom_example_sunder_sunder_query_Condition_Operator_ rfl (hb hby at_36) 0 (Nat.le_refl _) (by decide) (by decide) (by decide) (by decide) ?_
      intro v33 T33 L33 X33 hQ33
      obtain ⟨hv33, N33', e33⟩ := hQ33
      subst hv33
      have N33 := Fr.app N0 N33'
      show Go pP eE below _ (T33.setTop (mkF m 39 #[.val (.int p0), .val (.int p1), .val (.int p2), .val (.int p3), .val (.int (4 : Int32)), .val (.int (1 : Int32)), .val (.int p1), .unset, .unset] [(.ref o4)]))
      refine Go.st (S' := T33.setTop (mkF m 41 #[.val (.int p0), .val (.int p1), .val (.int p2), .val (.int p3), .val (.int (4 : Int32)), .val (.int (1 : Int32)), .val (.int p1), .val (.ref o4), .unset] [])) (fun t kt => XS.astore X33.here hx rfl (hb hby at_39) rfl rfl rfl kt) ?_
      refine Go.st (S' := T33.setTop (mkF m 43 #[.val (.int p0), .val (.int p1), .val (.int p2), .val (.int p3), .val (.int (4 : Int32)), .val (.int (1 : Int32)), .val (.int p1), .val (.ref o4), .unset] [(.ref o4)])) (fun t kt => XS.aload X33.here hx rfl (hb hby at_41) rfl rfl kt) ?_
      refine Go.st (S' := T33.setTop (mkF m 44 #[.val (.int p0), .val (.int p1), .val (.int p2), .val (.int p3), .val (.int (4 : Int32)), .val (.int (1 : Int32)), .val (.int p1), .val (.ref o4), .unset] [(.int p1), (.ref o4)])) (fun t kt => XS.iloadN X33.here hx rfl (hb hby at_43) rfl kt) ?_
      refine Go.st (S' := T33.setTop (mkF m 45 #[.val (.int p0), .val (.int p1), .val (.int p2), .val (.int p3), .val (.int (4 : Int32)), .val (.int (1 : Int32)), .val (.int p1), .val (.ref o4), .unset] [(.double (FP.i2d p1)), (.ref o4)])) (fun t kt => XS.i2dS X33.here hx rfl (hb hby at_44) rfl rfl kt) ?_
      refine Go.st (S' := T33.setTop (mkF m 47 #[.val (.int p0), .val (.int p1), .val (.int p2), .val (.int p3), .val (.int (4 : Int32)), .val (.int (1 : Int32)), .val (.int p1), .val (.ref o4), .unset] [(.int p1), (.double (FP.i2d p1)), (.ref o4)])) (fun t kt => XS.iload X33.here hx rfl (hb hby at_45) rfl kt) ?_
      refine Go.st (S' := T33.setTop (mkF m 48 #[.val (.int p0), .val (.int p1), .val (.int p2), .val (.int p3), .val (.int (4 : Int32)), .val (.int (1 : Int32)), .val (.int p1), .val (.ref o4), .unset] [(.double (FP.i2d p1)), (.double (FP.i2d p1)), (.ref o4)])) (fun t kt => XS.i2dS X33.here hx rfl (hb hby at_47) rfl rfl kt) ?_
      obtain ⟨r, hr⟩ : ∃ r : Int32, r = if p1 < p1 then 1 else 0 := ⟨_, rfl⟩
      refine Go.virt X33 hx hZ hown (hw _ (List.mem_of_getElem? (i := 8) rfl)) (hw _ (List.mem_of_getElem? (i := 9) rfl)) (notFace_of_selects (mvT (args := #[]) hZ (hw _ (List.mem_of_getElem? (i := 11) rfl)))) (hw _ (List.mem_of_getElem? (i := 11) rfl)) (hw _ (List.mem_of_getElem? (i := 10) rfl)) (hw _ (List.mem_of_getElem? (i := 12) rfl)) (hw _ (List.mem_of_getElem? (i := 6) rfl)) (by decide) (b := o4) (argsL := [(.double (FP.i2d p1)), (.double (FP.i2d p1))]) (rest := []) (rmH4 l Z a0 hw o4 (FP.i2d p1) (FP.i2d p1) p1 p1 r h0 n0 Z0 E_4 F_4 rfl rfl hr) e33 E_4 rfl (by rw [hml]; rfl) pd__DD_Z rfl (hb hby at_48) 0 (Nat.le_refl _) (by decide) (by decide) (by decide) (by decide) ?_
      intro v34 T34 L34 X34 hQ34
      obtain ⟨hv34, N34', e34⟩ := hQ34
      subst hv34
      have N34 := Fr.app N33 N34'
      show Go pP eE below _ (T34.setTop (mkF m 51 #[.val (.int p0), .val (.int p1), .val (.int p2), .val (.int p3), .val (.int (4 : Int32)), .val (.int (1 : Int32)), .val (.int p1), .val (.ref o4), .unset] [(.int r)]))
      refine Go.st (S' := T34.setTop (mkF m 53 #[.val (.int p0), .val (.int p1), .val (.int p2), .val (.int p3), .val (.int (4 : Int32)), .val (.int (1 : Int32)), .val (.int p1), .val (.ref o4), .val (.int r)] [])) (fun t kt => XS.istore X34.here hx rfl (hb hby at_51) rfl rfl kt) ?_
      refine Go.st (S' := T34.setTop (mkF m 55 #[.val (.int p0), .val (.int p1), .val (.int p2), .val (.int p3), .val (.int (4 : Int32)), .val (.int (1 : Int32)), .val (.int p1), .val (.ref o4), .val (.int r)] [(.int r)])) (fun t kt => XS.iload X34.here hx rfl (hb hby at_53) rfl kt) ?_
      refine Go.st (S' := T34.setTop (mkF m 57 #[.val (.int p0), .val (.int p1), .val (.int p2), .val (.int p3), .val (.int (4 : Int32)), .val (.int (1 : Int32)), .val (.int p1), .val (.ref o4), .val (.int r)] [(.int (4 : Int32)), (.int r)])) (fun t kt => XS.iload X34.here hx rfl (hb hby at_55) rfl kt) ?_
      refine Go.st (S' := T34.setTop (mkF m 58 #[.val (.int p0), .val (.int p1), .val (.int p2), .val (.int p3), .val (.int (4 : Int32)), .val (.int (1 : Int32)), .val (.int p1), .val (.ref o4), .val (.int r)] [(.int p1), (.int (4 : Int32)), (.int r)])) (fun t kt => XS.iloadN X34.here hx rfl (hb hby at_57) rfl kt) ?_
      refine Go.st (S' := T34.setTop (mkF m 60 #[.val (.int p0), .val (.int p1), .val (.int p2), .val (.int p3), .val (.int (4 : Int32)), .val (.int (1 : Int32)), .val (.int p1), .val (.ref o4), .val (.int r)] [(.int p1), (.int p1), (.int (4 : Int32)), (.int r)])) (fun t kt => XS.iload X34.here hx rfl (hb hby at_58) rfl kt) ?_
      refine Go.stat X34 hx hZ hown (hw _ (List.mem_of_getElem? (i := 22) rfl)) (hw _ (List.mem_of_getElem? (i := 23) rfl)) (hw _ (List.mem_of_getElem? (i := 3) rfl)) (hw _ (List.mem_of_getElem? (i := 24) rfl)) (by decide) (argsL := [(.int (4 : Int32)), (.int p1), (.int p1)]) (rest := [(.int r)]) (rmE4 l Z a0 hw p1 p1 r h0 n0 Z0 hr) e34 rfl (by rw [hml]; rfl) pd__III_Z rfl (hb hby at_60) 1 (Nat.le_refl _) (by decide) (by decide) (by decide) (by decide) ?_
      intro v35 T35 L35 X35 hQ35
      obtain ⟨hv35, N35', e35⟩ := hQ35
      subst hv35
      have N35 := Fr.app N34 N35'
      show Go pP eE below _ (T35.setTop (mkF m 63 #[.val (.int p0), .val (.int p1), .val (.int p2), .val (.int p3), .val (.int (4 : Int32)), .val (.int (1 : Int32)), .val (.int p1), .val (.ref o4), .val (.int r)] [(.int r), (.int r)]))
      refine Go.st (S' := T35.setTop (mkF m 66 #[.val (.int p0), .val (.int p1), .val (.int p2), .val (.int p3), .val (.int (4 : Int32)), .val (.int (1 : Int32)), .val (.int p1), .val (.ref o4), .val (.int r)] [])) (fun t kt => XS.icmpNo X35.here hx rfl (hb hby at_63) rfl (XT.ii_ne_f rfl) kt) ?_
      refine Go.st (S' := T35.setTop (mkF m 67 #[.val (.int p0), .val (.int p1), .val (.int p2), .val (.int p3), .val (.int (4 : Int32)), .val (.int (1 : Int32)), .val (.int p1), .val (.ref o4), .val (.int r)] [(.int (1 : Int32))])) (fun t kt => XS.iconst X35.here hx rfl (hb hby at_66) kt) ?_
      refine Go.st (S' := T35.setTop (mkF m 71 #[.val (.int p0), .val (.int p1), .val (.int p2), .val (.int p3), .val (.int (4 : Int32)), .val (.int (1 : Int32)), .val (.int p1), .val (.ref o4), .val (.int r)] [(.int (1 : Int32))])) (fun t kt => XS.goto X35.here hx rfl (pc0 := 67) (pc' := 71) rfl (hb hby at_67) (by decide) (by decide) kt) ?_
      exact ret_b X35 hx hlk hret (hb hby at_71) (by decide) (by decide) (⟨rfl, N35⟩)
  · rw [hi5]
    show Go pP eE below _ (T.setTop (mkF m 9 #[.val (.int p0), .val (.int p1), .val (.int p2), .val (.int p3), .val (.int (5 : Int32)), .unset, .unset, .unset, .unset] []))
    refine Go.st (S' := T.setTop (mkF m 10 #[.val (.int p0), .val (.int p1), .val (.int p2), .val (.int p3), .val (.int (5 : Int32)), .unset, .unset, .unset, .unset] [(.int p3)])) (fun t kt => XS.iloadN X.here hx rfl (hb hby at_9) rfl kt) ?_
    refine Go.st (S' := T.setTop (mkF m 11 #[.val (.int p0), .val (.int p1), .val (.int p2), .val (.int p3), .val (.int (5 : Int32)), .unset, .unset, .unset, .unset] [(.int (1 : Int32)), (.int p3)])) (fun t kt => XS.iconst X.here hx rfl (hb hby at_10) kt) ?_
    refine Go.st (S' := T.setTop (mkF m 12 #[.val (.int p0), .val (.int p1), .val (.int p2), .val (.int p3), .val (.int (5 : Int32)), .unset, .unset, .unset, .unset] [(.int (p3 &&& (1 : Int32)))])) (fun t kt => XS.iand X.here hx rfl (hb hby at_11) rfl kt) ?_
    by_cases hc12_36 : (p3 &&& (1 : Int32)) = 0
    · refine Go.st (S' := T.setTop (mkF m 19 #[.val (.int p0), .val (.int p1), .val (.int p2), .val (.int p3), .val (.int (5 : Int32)), .unset, .unset, .unset, .unset] [])) (fun t kt => XS.ifYes X.here hx rfl (pc0 := 12) (pc' := 19) rfl (hb hby at_12) rfl (XT.i0_eq_t hc12_36) (by decide) (by decide) kt) ?_
      refine Go.st (S' := T.setTop (mkF m 20 #[.val (.int p0), .val (.int p1), .val (.int p2), .val (.int p3), .val (.int (5 : Int32)), .unset, .unset, .unset, .unset] [(.int (0 : Int32))])) (fun t kt => XS.iconst X.here hx rfl (hb hby at_19) kt) ?_
      refine Go.st (S' := T.setTop (mkF m 22 #[.val (.int p0), .val (.int p1), .val (.int p2), .val (.int p3), .val (.int (5 : Int32)), .val (.int (0 : Int32)), .unset, .unset, .unset] [])) (fun t kt => XS.istore X.here hx rfl (hb hby at_20) rfl rfl kt) ?_
      refine Go.st (S' := T.setTop (mkF m 24 #[.val (.int p0), .val (.int p1), .val (.int p2), .val (.int p3), .val (.int (5 : Int32)), .val (.int (0 : Int32)), .unset, .unset, .unset] [(.int (0 : Int32))])) (fun t kt => XS.iload X.here hx rfl (hb hby at_22) rfl kt) ?_
      refine Go.st (S' := T.setTop (mkF m 31 #[.val (.int p0), .val (.int p1), .val (.int p2), .val (.int p3), .val (.int (5 : Int32)), .val (.int (0 : Int32)), .unset, .unset, .unset] [])) (fun t kt => XS.ifYes X.here hx rfl (pc0 := 24) (pc' := 31) rfl (hb hby at_24) rfl (XT.i0_eq_t (by decide)) (by decide) (by decide) kt) ?_
      refine Go.st (S' := T.setTop (mkF m 32 #[.val (.int p0), .val (.int p1), .val (.int p2), .val (.int p3), .val (.int (5 : Int32)), .val (.int (0 : Int32)), .unset, .unset, .unset] [(.int p2)])) (fun t kt => XS.iloadN X.here hx rfl (hb hby at_31) rfl kt) ?_
      refine Go.st (S' := T.setTop (mkF m 34 #[.val (.int p0), .val (.int p1), .val (.int p2), .val (.int p3), .val (.int (5 : Int32)), .val (.int (0 : Int32)), .val (.int p2), .unset, .unset] [])) (fun t kt => XS.istore X.here hx rfl (hb hby at_32) rfl rfl kt) ?_
      refine Go.st (S' := T.setTop (mkF m 36 #[.val (.int p0), .val (.int p1), .val (.int p2), .val (.int p3), .val (.int (5 : Int32)), .val (.int (0 : Int32)), .val (.int p2), .unset, .unset] [(.int (5 : Int32))])) (fun t kt => XS.iload X.here hx rfl (hb hby at_34) rfl kt) ?_
      refine Go.stat X hx hZ hown (hw _ (List.mem_of_getElem? (i := 1) rfl)) (hw _ (List.mem_of_getElem? (i := 2) rfl)) (hw _ (List.mem_of_getElem? (i := 3) rfl)) (hw _ (List.mem_of_getElem? (i := 4) rfl)) (by decide) (argsL := [(.int (5 : Int32))]) (rest := []) (rmP5 l Z a0 hw o5 h0 n0 Z0 S_5) eT rfl (by rw [hml]; rfl) pd__I_Lcom_example_sunder_sunder_query_Condition_Operator_ rfl (hb hby at_36) 0 (Nat.le_refl _) (by decide) (by decide) (by decide) (by decide) ?_
      intro v37 T37 L37 X37 hQ37
      obtain ⟨hv37, N37', e37⟩ := hQ37
      subst hv37
      have N37 := Fr.app N0 N37'
      show Go pP eE below _ (T37.setTop (mkF m 39 #[.val (.int p0), .val (.int p1), .val (.int p2), .val (.int p3), .val (.int (5 : Int32)), .val (.int (0 : Int32)), .val (.int p2), .unset, .unset] [(.ref o5)]))
      refine Go.st (S' := T37.setTop (mkF m 41 #[.val (.int p0), .val (.int p1), .val (.int p2), .val (.int p3), .val (.int (5 : Int32)), .val (.int (0 : Int32)), .val (.int p2), .val (.ref o5), .unset] [])) (fun t kt => XS.astore X37.here hx rfl (hb hby at_39) rfl rfl rfl kt) ?_
      refine Go.st (S' := T37.setTop (mkF m 43 #[.val (.int p0), .val (.int p1), .val (.int p2), .val (.int p3), .val (.int (5 : Int32)), .val (.int (0 : Int32)), .val (.int p2), .val (.ref o5), .unset] [(.ref o5)])) (fun t kt => XS.aload X37.here hx rfl (hb hby at_41) rfl rfl kt) ?_
      refine Go.st (S' := T37.setTop (mkF m 44 #[.val (.int p0), .val (.int p1), .val (.int p2), .val (.int p3), .val (.int (5 : Int32)), .val (.int (0 : Int32)), .val (.int p2), .val (.ref o5), .unset] [(.int p1), (.ref o5)])) (fun t kt => XS.iloadN X37.here hx rfl (hb hby at_43) rfl kt) ?_
      refine Go.st (S' := T37.setTop (mkF m 45 #[.val (.int p0), .val (.int p1), .val (.int p2), .val (.int p3), .val (.int (5 : Int32)), .val (.int (0 : Int32)), .val (.int p2), .val (.ref o5), .unset] [(.double (FP.i2d p1)), (.ref o5)])) (fun t kt => XS.i2dS X37.here hx rfl (hb hby at_44) rfl rfl kt) ?_
      refine Go.st (S' := T37.setTop (mkF m 47 #[.val (.int p0), .val (.int p1), .val (.int p2), .val (.int p3), .val (.int (5 : Int32)), .val (.int (0 : Int32)), .val (.int p2), .val (.ref o5), .unset] [(.int p2), (.double (FP.i2d p1)), (.ref o5)])) (fun t kt => XS.iload X37.here hx rfl (hb hby at_45) rfl kt) ?_
      refine Go.st (S' := T37.setTop (mkF m 48 #[.val (.int p0), .val (.int p1), .val (.int p2), .val (.int p3), .val (.int (5 : Int32)), .val (.int (0 : Int32)), .val (.int p2), .val (.ref o5), .unset] [(.double (FP.i2d p2)), (.double (FP.i2d p1)), (.ref o5)])) (fun t kt => XS.i2dS X37.here hx rfl (hb hby at_47) rfl rfl kt) ?_
      obtain ⟨r, hr⟩ : ∃ r : Int32, r = if ¬ p1 < p2 then 1 else 0 := ⟨_, rfl⟩
      refine Go.virt X37 hx hZ hown (hw _ (List.mem_of_getElem? (i := 8) rfl)) (hw _ (List.mem_of_getElem? (i := 9) rfl)) (notFace_of_selects (mvT (args := #[]) hZ (hw _ (List.mem_of_getElem? (i := 11) rfl)))) (hw _ (List.mem_of_getElem? (i := 11) rfl)) (hw _ (List.mem_of_getElem? (i := 10) rfl)) (hw _ (List.mem_of_getElem? (i := 12) rfl)) (hw _ (List.mem_of_getElem? (i := 6) rfl)) (by decide) (b := o5) (argsL := [(.double (FP.i2d p1)), (.double (FP.i2d p2))]) (rest := []) (rmH5 l Z a0 hw o5 (FP.i2d p1) (FP.i2d p2) p1 p2 r h0 n0 Z0 E_5 F_5 rfl rfl hr) e37 E_5 rfl (by rw [hml]; rfl) pd__DD_Z rfl (hb hby at_48) 0 (Nat.le_refl _) (by decide) (by decide) (by decide) (by decide) ?_
      intro v38 T38 L38 X38 hQ38
      obtain ⟨hv38, N38', e38⟩ := hQ38
      subst hv38
      have N38 := Fr.app N37 N38'
      show Go pP eE below _ (T38.setTop (mkF m 51 #[.val (.int p0), .val (.int p1), .val (.int p2), .val (.int p3), .val (.int (5 : Int32)), .val (.int (0 : Int32)), .val (.int p2), .val (.ref o5), .unset] [(.int r)]))
      refine Go.st (S' := T38.setTop (mkF m 53 #[.val (.int p0), .val (.int p1), .val (.int p2), .val (.int p3), .val (.int (5 : Int32)), .val (.int (0 : Int32)), .val (.int p2), .val (.ref o5), .val (.int r)] [])) (fun t kt => XS.istore X38.here hx rfl (hb hby at_51) rfl rfl kt) ?_
      refine Go.st (S' := T38.setTop (mkF m 55 #[.val (.int p0), .val (.int p1), .val (.int p2), .val (.int p3), .val (.int (5 : Int32)), .val (.int (0 : Int32)), .val (.int p2), .val (.ref o5), .val (.int r)] [(.int r)])) (fun t kt => XS.iload X38.here hx rfl (hb hby at_53) rfl kt) ?_
      refine Go.st (S' := T38.setTop (mkF m 57 #[.val (.int p0), .val (.int p1), .val (.int p2), .val (.int p3), .val (.int (5 : Int32)), .val (.int (0 : Int32)), .val (.int p2), .val (.ref o5), .val (.int r)] [(.int (5 : Int32)), (.int r)])) (fun t kt => XS.iload X38.here hx rfl (hb hby at_55) rfl kt) ?_
      refine Go.st (S' := T38.setTop (mkF m 58 #[.val (.int p0), .val (.int p1), .val (.int p2), .val (.int p3), .val (.int (5 : Int32)), .val (.int (0 : Int32)), .val (.int p2), .val (.ref o5), .val (.int r)] [(.int p1), (.int (5 : Int32)), (.int r)])) (fun t kt => XS.iloadN X38.here hx rfl (hb hby at_57) rfl kt) ?_
      refine Go.st (S' := T38.setTop (mkF m 60 #[.val (.int p0), .val (.int p1), .val (.int p2), .val (.int p3), .val (.int (5 : Int32)), .val (.int (0 : Int32)), .val (.int p2), .val (.ref o5), .val (.int r)] [(.int p2), (.int p1), (.int (5 : Int32)), (.int r)])) (fun t kt => XS.iload X38.here hx rfl (hb hby at_58) rfl kt) ?_
      refine Go.stat X38 hx hZ hown (hw _ (List.mem_of_getElem? (i := 22) rfl)) (hw _ (List.mem_of_getElem? (i := 23) rfl)) (hw _ (List.mem_of_getElem? (i := 3) rfl)) (hw _ (List.mem_of_getElem? (i := 24) rfl)) (by decide) (argsL := [(.int (5 : Int32)), (.int p1), (.int p2)]) (rest := [(.int r)]) (rmE5 l Z a0 hw p1 p2 r h0 n0 Z0 hr) e38 rfl (by rw [hml]; rfl) pd__III_Z rfl (hb hby at_60) 1 (Nat.le_refl _) (by decide) (by decide) (by decide) (by decide) ?_
      intro v39 T39 L39 X39 hQ39
      obtain ⟨hv39, N39', e39⟩ := hQ39
      subst hv39
      have N39 := Fr.app N38 N39'
      show Go pP eE below _ (T39.setTop (mkF m 63 #[.val (.int p0), .val (.int p1), .val (.int p2), .val (.int p3), .val (.int (5 : Int32)), .val (.int (0 : Int32)), .val (.int p2), .val (.ref o5), .val (.int r)] [(.int r), (.int r)]))
      refine Go.st (S' := T39.setTop (mkF m 66 #[.val (.int p0), .val (.int p1), .val (.int p2), .val (.int p3), .val (.int (5 : Int32)), .val (.int (0 : Int32)), .val (.int p2), .val (.ref o5), .val (.int r)] [])) (fun t kt => XS.icmpNo X39.here hx rfl (hb hby at_63) rfl (XT.ii_ne_f rfl) kt) ?_
      refine Go.st (S' := T39.setTop (mkF m 67 #[.val (.int p0), .val (.int p1), .val (.int p2), .val (.int p3), .val (.int (5 : Int32)), .val (.int (0 : Int32)), .val (.int p2), .val (.ref o5), .val (.int r)] [(.int (1 : Int32))])) (fun t kt => XS.iconst X39.here hx rfl (hb hby at_66) kt) ?_
      refine Go.st (S' := T39.setTop (mkF m 71 #[.val (.int p0), .val (.int p1), .val (.int p2), .val (.int p3), .val (.int (5 : Int32)), .val (.int (0 : Int32)), .val (.int p2), .val (.ref o5), .val (.int r)] [(.int (1 : Int32))])) (fun t kt => XS.goto X39.here hx rfl (pc0 := 67) (pc' := 71) rfl (hb hby at_67) (by decide) (by decide) kt) ?_
      exact ret_b X39 hx hlk hret (hb hby at_71) (by decide) (by decide) (⟨rfl, N39⟩)
    · refine Go.st (S' := T.setTop (mkF m 15 #[.val (.int p0), .val (.int p1), .val (.int p2), .val (.int p3), .val (.int (5 : Int32)), .unset, .unset, .unset, .unset] [])) (fun t kt => XS.ifNo X.here hx rfl (hb hby at_12) rfl (XT.i0_eq_f hc12_36) kt) ?_
      refine Go.st (S' := T.setTop (mkF m 16 #[.val (.int p0), .val (.int p1), .val (.int p2), .val (.int p3), .val (.int (5 : Int32)), .unset, .unset, .unset, .unset] [(.int (1 : Int32))])) (fun t kt => XS.iconst X.here hx rfl (hb hby at_15) kt) ?_
      refine Go.st (S' := T.setTop (mkF m 20 #[.val (.int p0), .val (.int p1), .val (.int p2), .val (.int p3), .val (.int (5 : Int32)), .unset, .unset, .unset, .unset] [(.int (1 : Int32))])) (fun t kt => XS.goto X.here hx rfl (pc0 := 16) (pc' := 20) rfl (hb hby at_16) (by decide) (by decide) kt) ?_
      refine Go.st (S' := T.setTop (mkF m 22 #[.val (.int p0), .val (.int p1), .val (.int p2), .val (.int p3), .val (.int (5 : Int32)), .val (.int (1 : Int32)), .unset, .unset, .unset] [])) (fun t kt => XS.istore X.here hx rfl (hb hby at_20) rfl rfl kt) ?_
      refine Go.st (S' := T.setTop (mkF m 24 #[.val (.int p0), .val (.int p1), .val (.int p2), .val (.int p3), .val (.int (5 : Int32)), .val (.int (1 : Int32)), .unset, .unset, .unset] [(.int (1 : Int32))])) (fun t kt => XS.iload X.here hx rfl (hb hby at_22) rfl kt) ?_
      refine Go.st (S' := T.setTop (mkF m 27 #[.val (.int p0), .val (.int p1), .val (.int p2), .val (.int p3), .val (.int (5 : Int32)), .val (.int (1 : Int32)), .unset, .unset, .unset] [])) (fun t kt => XS.ifNo X.here hx rfl (hb hby at_24) rfl (XT.i0_eq_f (by decide)) kt) ?_
      refine Go.st (S' := T.setTop (mkF m 28 #[.val (.int p0), .val (.int p1), .val (.int p2), .val (.int p3), .val (.int (5 : Int32)), .val (.int (1 : Int32)), .unset, .unset, .unset] [(.int p1)])) (fun t kt => XS.iloadN X.here hx rfl (hb hby at_27) rfl kt) ?_
      refine Go.st (S' := T.setTop (mkF m 32 #[.val (.int p0), .val (.int p1), .val (.int p2), .val (.int p3), .val (.int (5 : Int32)), .val (.int (1 : Int32)), .unset, .unset, .unset] [(.int p1)])) (fun t kt => XS.goto X.here hx rfl (pc0 := 28) (pc' := 32) rfl (hb hby at_28) (by decide) (by decide) kt) ?_
      refine Go.st (S' := T.setTop (mkF m 34 #[.val (.int p0), .val (.int p1), .val (.int p2), .val (.int p3), .val (.int (5 : Int32)), .val (.int (1 : Int32)), .val (.int p1), .unset, .unset] [])) (fun t kt => XS.istore X.here hx rfl (hb hby at_32) rfl rfl kt) ?_
      refine Go.st (S' := T.setTop (mkF m 36 #[.val (.int p0), .val (.int p1), .val (.int p2), .val (.int p3), .val (.int (5 : Int32)), .val (.int (1 : Int32)), .val (.int p1), .unset, .unset] [(.int (5 : Int32))])) (fun t kt => XS.iload X.here hx rfl (hb hby at_34) rfl kt) ?_
      refine Go.stat X hx hZ hown (hw _ (List.mem_of_getElem? (i := 1) rfl)) (hw _ (List.mem_of_getElem? (i := 2) rfl)) (hw _ (List.mem_of_getElem? (i := 3) rfl)) (hw _ (List.mem_of_getElem? (i := 4) rfl)) (by decide) (argsL := [(.int (5 : Int32))]) (rest := []) (rmP5 l Z a0 hw o5 h0 n0 Z0 S_5) eT rfl (by rw [hml]; rfl) pd__I_Lcom_example_sunder_sunder_query_Condition_Operator_ rfl (hb hby at_36) 0 (Nat.le_refl _) (by decide) (by decide) (by decide) (by decide) ?_
      intro v40 T40 L40 X40 hQ40
      obtain ⟨hv40, N40', e40⟩ := hQ40
      subst hv40
      have N40 := Fr.app N0 N40'
      show Go pP eE below _ (T40.setTop (mkF m 39 #[.val (.int p0), .val (.int p1), .val (.int p2), .val (.int p3), .val (.int (5 : Int32)), .val (.int (1 : Int32)), .val (.int p1), .unset, .unset] [(.ref o5)]))
      refine Go.st (S' := T40.setTop (mkF m 41 #[.val (.int p0), .val (.int p1), .val (.int p2), .val (.int p3), .val (.int (5 : Int32)), .val (.int (1 : Int32)), .val (.int p1), .val (.ref o5), .unset] [])) (fun t kt => XS.astore X40.here hx rfl (hb hby at_39) rfl rfl rfl kt) ?_
      refine Go.st (S' := T40.setTop (mkF m 43 #[.val (.int p0), .val (.int p1), .val (.int p2), .val (.int p3), .val (.int (5 : Int32)), .val (.int (1 : Int32)), .val (.int p1), .val (.ref o5), .unset] [(.ref o5)])) (fun t kt => XS.aload X40.here hx rfl (hb hby at_41) rfl rfl kt) ?_
      refine Go.st (S' := T40.setTop (mkF m 44 #[.val (.int p0), .val (.int p1), .val (.int p2), .val (.int p3), .val (.int (5 : Int32)), .val (.int (1 : Int32)), .val (.int p1), .val (.ref o5), .unset] [(.int p1), (.ref o5)])) (fun t kt => XS.iloadN X40.here hx rfl (hb hby at_43) rfl kt) ?_
      refine Go.st (S' := T40.setTop (mkF m 45 #[.val (.int p0), .val (.int p1), .val (.int p2), .val (.int p3), .val (.int (5 : Int32)), .val (.int (1 : Int32)), .val (.int p1), .val (.ref o5), .unset] [(.double (FP.i2d p1)), (.ref o5)])) (fun t kt => XS.i2dS X40.here hx rfl (hb hby at_44) rfl rfl kt) ?_
      refine Go.st (S' := T40.setTop (mkF m 47 #[.val (.int p0), .val (.int p1), .val (.int p2), .val (.int p3), .val (.int (5 : Int32)), .val (.int (1 : Int32)), .val (.int p1), .val (.ref o5), .unset] [(.int p1), (.double (FP.i2d p1)), (.ref o5)])) (fun t kt => XS.iload X40.here hx rfl (hb hby at_45) rfl kt) ?_
      refine Go.st (S' := T40.setTop (mkF m 48 #[.val (.int p0), .val (.int p1), .val (.int p2), .val (.int p3), .val (.int (5 : Int32)), .val (.int (1 : Int32)), .val (.int p1), .val (.ref o5), .unset] [(.double (FP.i2d p1)), (.double (FP.i2d p1)), (.ref o5)])) (fun t kt => XS.i2dS X40.here hx rfl (hb hby at_47) rfl rfl kt) ?_
      obtain ⟨r, hr⟩ : ∃ r : Int32, r = if ¬ p1 < p1 then 1 else 0 := ⟨_, rfl⟩
      refine Go.virt X40 hx hZ hown (hw _ (List.mem_of_getElem? (i := 8) rfl)) (hw _ (List.mem_of_getElem? (i := 9) rfl)) (notFace_of_selects (mvT (args := #[]) hZ (hw _ (List.mem_of_getElem? (i := 11) rfl)))) (hw _ (List.mem_of_getElem? (i := 11) rfl)) (hw _ (List.mem_of_getElem? (i := 10) rfl)) (hw _ (List.mem_of_getElem? (i := 12) rfl)) (hw _ (List.mem_of_getElem? (i := 6) rfl)) (by decide) (b := o5) (argsL := [(.double (FP.i2d p1)), (.double (FP.i2d p1))]) (rest := []) (rmH5 l Z a0 hw o5 (FP.i2d p1) (FP.i2d p1) p1 p1 r h0 n0 Z0 E_5 F_5 rfl rfl hr) e40 E_5 rfl (by rw [hml]; rfl) pd__DD_Z rfl (hb hby at_48) 0 (Nat.le_refl _) (by decide) (by decide) (by decide) (by decide) ?_
      intro v41 T41 L41 X41 hQ41
      obtain ⟨hv41, N41', e41⟩ := hQ41
      subst hv41
      have N41 := Fr.app N40 N41'
      show Go pP eE below _ (T41.setTop (mkF m 51 #[.val (.int p0), .val (.int p1), .val (.int p2), .val (.int p3), .val (.int (5 : Int32)), .val (.int (1 : Int32)), .val (.int p1), .val (.ref o5), .unset] [(.int r)]))
      refine Go.st (S' := T41.setTop (mkF m 53 #[.val (.int p0), .val (.int p1), .val (.int p2), .val (.int p3), .val (.int (5 : Int32)), .val (.int (1 : Int32)), .val (.int p1), .val (.ref o5), .val (.int r)] [])) (fun t kt => XS.istore X41.here hx rfl (hb hby at_51) rfl rfl kt) ?_
      refine Go.st (S' := T41.setTop (mkF m 55 #[.val (.int p0), .val (.int p1), .val (.int p2), .val (.int p3), .val (.int (5 : Int32)), .val (.int (1 : Int32)), .val (.int p1), .val (.ref o5), .val (.int r)] [(.int r)])) (fun t kt => XS.iload X41.here hx rfl (hb hby at_53) rfl kt) ?_
      refine Go.st (S' := T41.setTop (mkF m 57 #[.val (.int p0), .val (.int p1), .val (.int p2), .val (.int p3), .val (.int (5 : Int32)), .val (.int (1 : Int32)), .val (.int p1), .val (.ref o5), .val (.int r)] [(.int (5 : Int32)), (.int r)])) (fun t kt => XS.iload X41.here hx rfl (hb hby at_55) rfl kt) ?_
      refine Go.st (S' := T41.setTop (mkF m 58 #[.val (.int p0), .val (.int p1), .val (.int p2), .val (.int p3), .val (.int (5 : Int32)), .val (.int (1 : Int32)), .val (.int p1), .val (.ref o5), .val (.int r)] [(.int p1), (.int (5 : Int32)), (.int r)])) (fun t kt => XS.iloadN X41.here hx rfl (hb hby at_57) rfl kt) ?_
      refine Go.st (S' := T41.setTop (mkF m 60 #[.val (.int p0), .val (.int p1), .val (.int p2), .val (.int p3), .val (.int (5 : Int32)), .val (.int (1 : Int32)), .val (.int p1), .val (.ref o5), .val (.int r)] [(.int p1), (.int p1), (.int (5 : Int32)), (.int r)])) (fun t kt => XS.iload X41.here hx rfl (hb hby at_58) rfl kt) ?_
      refine Go.stat X41 hx hZ hown (hw _ (List.mem_of_getElem? (i := 22) rfl)) (hw _ (List.mem_of_getElem? (i := 23) rfl)) (hw _ (List.mem_of_getElem? (i := 3) rfl)) (hw _ (List.mem_of_getElem? (i := 24) rfl)) (by decide) (argsL := [(.int (5 : Int32)), (.int p1), (.int p1)]) (rest := [(.int r)]) (rmE5 l Z a0 hw p1 p1 r h0 n0 Z0 hr) e41 rfl (by rw [hml]; rfl) pd__III_Z rfl (hb hby at_60) 1 (Nat.le_refl _) (by decide) (by decide) (by decide) (by decide) ?_
      intro v42 T42 L42 X42 hQ42
      obtain ⟨hv42, N42', e42⟩ := hQ42
      subst hv42
      have N42 := Fr.app N41 N42'
      show Go pP eE below _ (T42.setTop (mkF m 63 #[.val (.int p0), .val (.int p1), .val (.int p2), .val (.int p3), .val (.int (5 : Int32)), .val (.int (1 : Int32)), .val (.int p1), .val (.ref o5), .val (.int r)] [(.int r), (.int r)]))
      refine Go.st (S' := T42.setTop (mkF m 66 #[.val (.int p0), .val (.int p1), .val (.int p2), .val (.int p3), .val (.int (5 : Int32)), .val (.int (1 : Int32)), .val (.int p1), .val (.ref o5), .val (.int r)] [])) (fun t kt => XS.icmpNo X42.here hx rfl (hb hby at_63) rfl (XT.ii_ne_f rfl) kt) ?_
      refine Go.st (S' := T42.setTop (mkF m 67 #[.val (.int p0), .val (.int p1), .val (.int p2), .val (.int p3), .val (.int (5 : Int32)), .val (.int (1 : Int32)), .val (.int p1), .val (.ref o5), .val (.int r)] [(.int (1 : Int32))])) (fun t kt => XS.iconst X42.here hx rfl (hb hby at_66) kt) ?_
      refine Go.st (S' := T42.setTop (mkF m 71 #[.val (.int p0), .val (.int p1), .val (.int p2), .val (.int p3), .val (.int (5 : Int32)), .val (.int (1 : Int32)), .val (.int p1), .val (.ref o5), .val (.int r)] [(.int (1 : Int32))])) (fun t kt => XS.goto X42.here hx rfl (pc0 := 67) (pc' := 71) rfl (hb hby at_67) (by decide) (by decide) kt) ?_
      exact ret_b X42 hx hlk hret (hb hby at_71) (by decide) (by decide) (⟨rfl, N42⟩)
theorem own_fld_int {args : Array Value} {s : State} {t : Term} {a : Addr} {C n d : String} {k : Int32} (ht : t.eval args s none [] s = some (.ref a)) (h : (Jvm.Cond.eq (.field t C n d) (.int k)).value args s none s [] = some true) : s.fieldOf? a C n d = some (.int k) := by
  have q := eqv_i (Term.int_eval k) h
  rw [fld_at ht] at q
  exact q
set_option maxRecDepth 65536 in
set_option maxHeartbeats 40000000 in
theorem comes_1 {Post : Tables → Env → Array Value → State → Outcome → State → Prop} (hpost : ∀ tb e args s v u, (limb_1_1.after args s (.returned v) u = true ∧ limb_1_2.after args s (.returned v) u = true ∧ True) → FrameEnd s (.returned v) u (Jvm.fieldLocs frame_1_writes args s ++ Jvm.arrayLocs frame_1_arrays args s ++ Jvm.staticLocs frame_1_statics s) 0 0 → Post tb e args s (.returned v) u) :
    ArmFor flags0 classFile x code maxLocals ret World_1 tables_1 room_1 Calls_1 rest_1 Pre_1 Post := by
  intro l hfl _ _ p e ha hc hk s m args below hf hA hF happ hP
  obtain ⟨hcalls, hrest, hpre⟩ := hP
  obtain ⟨-, -, -, hnamed, -, hinit0, -, hat⟩ := (Spec.applies_iff hf).mp happ
  obtain ⟨hg, hn⟩ := and_e (Cond.before_iff.mp (show (Jvm.Cond.and given_1 narrow_1).before args s = true from hpre))
  obtain ⟨hcount, hgs⟩ := and_e hg
  obtain ⟨hg0, hgs⟩ := and_e hgs
  obtain ⟨hg1, hgs⟩ := and_e hgs
  obtain ⟨hg2, hg3⟩ := and_e hgs
  obtain ⟨w0, w1, w2, w3, rfl⟩ : ∃ w0 w1 w2 w3 : Value, args = #[w0, w1, w2, w3] := by
    have hs : args.size = 4 := by simpa [Cond.value, given_1] using hcount
    obtain ⟨L⟩ := args
    match L, hs with
    | [w0, w1, w2, w3], _ => exact ⟨w0, w1, w2, w3, rfl⟩
  have hw := fun d (hd : d ∈ tables_1) => atoms_spec (ws := Jvm.Cond.code x code maxLocals ret :: tables_1) hat d (List.mem_cons_of_mem _ hd)
  have hfit : Fit s := fun {y c} hc i hi => by
    obtain ⟨ha, rfl⟩ := Array.getElem?_eq_some_iff.mp hc
    have q := List.all_eq_true.mp ((Array.all_eq_true_iff_forall_mem.mp hF) _ (Array.getElem_mem ha)) i (List.mem_range.mpr hi)
    simpa [Array.getElem?_eq_getElem hi] using q
  obtain ⟨i0, ei0⟩ := is_v hg0
  obtain rfl : w0 = (.int i0) := Option.some.inj ei0
  obtain ⟨i1, ei1⟩ := is_v hg1
  obtain rfl : w1 = (.int i1) := Option.some.inj ei1
  obtain ⟨i2, ei2⟩ := is_v hg2
  obtain rfl : w2 = (.int i2) := Option.some.inj ei2
  obtain ⟨i3, ei3⟩ := is_v hg3
  obtain rfl : w3 = (.int i3) := Option.some.inj ei3
  obtain ⟨n0, hn⟩ := and_e hn
  obtain ⟨n1, hn⟩ := and_e hn
  obtain ⟨n2, hn⟩ := and_e hn
  obtain ⟨n3, hn⟩ := and_e hn
  obtain ⟨n4, hn⟩ := and_e hn
  obtain ⟨n5, hn⟩ := and_e hn
  obtain ⟨n6, hn⟩ := and_e hn
  obtain ⟨n7, hn⟩ := and_e hn
  obtain ⟨n8, hn⟩ := and_e hn
  obtain ⟨n9, hn⟩ := and_e hn
  obtain ⟨n10, n11⟩ := and_e hn
  obtain ⟨o0, vo0⟩ := exa_v n0
  have So0 := Sta.start vo0 (Or.inr ⟨(hw _ (List.mem_of_getElem? (i := 6) rfl)), (hw _ (List.mem_of_getElem? (i := 7) rfl))⟩)
  have Eo0 := Exa.start vo0 n0
  obtain ⟨o1, vo1⟩ := exa_v n2
  have So1 := Sta.start vo1 (Or.inr ⟨(hw _ (List.mem_of_getElem? (i := 6) rfl)), (hw _ (List.mem_of_getElem? (i := 26) rfl))⟩)
  have Eo1 := Exa.start vo1 n2
  obtain ⟨o4, vo4⟩ := exa_v n4
  have So4 := Sta.start vo4 (Or.inr ⟨(hw _ (List.mem_of_getElem? (i := 6) rfl)), (hw _ (List.mem_of_getElem? (i := 28) rfl))⟩)
  have Eo4 := Exa.start vo4 n4
  obtain ⟨o3, vo3⟩ := exa_v n6
  have So3 := Sta.start vo3 (Or.inr ⟨(hw _ (List.mem_of_getElem? (i := 6) rfl)), (hw _ (List.mem_of_getElem? (i := 30) rfl))⟩)
  have Eo3 := Exa.start vo3 n6
  obtain ⟨o5, vo5⟩ := exa_v n8
  have So5 := Sta.start vo5 (Or.inr ⟨(hw _ (List.mem_of_getElem? (i := 6) rfl)), (hw _ (List.mem_of_getElem? (i := 32) rfl))⟩)
  have Eo5 := Exa.start vo5 n8
  obtain ⟨o2, vo2⟩ := exa_v n10
  have So2 := Sta.start vo2 (Or.inr ⟨(hw _ (List.mem_of_getElem? (i := 6) rfl)), (hw _ (List.mem_of_getElem? (i := 34) rfl))⟩)
  have Eo2 := Exa.start vo2 n10
  have Fo0_ordinal := Fld.start (own_fld_int vo0 n1)
  have Fo1_ordinal := Fld.start (own_fld_int vo1 n3)
  have Fo4_ordinal := Fld.start (own_fld_int vo4 n5)
  have Fo3_ordinal := Fld.start (own_fld_int vo3 n7)
  have Fo5_ordinal := Fld.start (own_fld_int vo5 n9)
  have Fo2_ordinal := Fld.start (own_fld_int vo2 n11)
  obtain ⟨n, o, h1, h2, h3, _, L, rfl, ⟨rfl, N⟩, hq⟩ := rm0 l s _ hw i0 i1 i2 i3 s.heap s.heap.size (Nat.le_refl _) o0 o1 o2 o3 o4 o5 So0 So1 So2 So3 So4 So5 Eo0 Eo1 Eo2 Eo3 Eo4 Eo5 Fo0_ordinal Fo1_ordinal Fo2_ordinal Fo3_ordinal Fo4_ordinal Fo5_ordinal tables_1 p e ha hc hk s m _ below hf ((Spec.applies_iff_loose hf).mp happ).1 ⟨rfl, State.Warmed39.refl s, rfl⟩ trivial
  refine ⟨n, _, h1, h2, h3, hpost _ _ _ _ _ _ ⟨Cond.after_iff.mpr rfl, Cond.after_iff.mpr (eq_i res_at (Term.int_eval (1)) rfl), trivial⟩ ⟨hq.1, hq.2.1, (hq.2.2.sift fun y hy => Or.inr (N y hy)).mono (by decide) (by decide)⟩⟩
theorem main_1_1 : Claimed_1_1 := comes_1 fun _ _ _ _ _ _ h hF => ⟨h.1, hF⟩
theorem main_1_2 : Claimed_1_2 := comes_1 fun _ _ _ _ _ _ h hF => ⟨h.2.1, hF⟩
end Jvm.Pilot.@@N@@
namespace Jvm.Pilot.@@N@@
open Jvm Jvm.ClassFile Sem Op Lib Jvm.Free Jvm.Stand Jvm.Pilot.@@N@@.Jvm.D
/-! MADE BY PROGRAM (witnessworld.py) out of the Statement's table words and the real class files: 12 classes; the members and pool entries that the words name. The judged class is class 1, her method 3. -/
namespace start1
open Jvm.ClassFile
def u (s : String) : CpInfo := .utf8 (stringToUtf16 s)
/-- a pool by its gaps: so many unusable entries, then the entry; so many at the end -/
def gap : Nat → List CpInfo → List CpInfo
  | 0, r => r
  | n + 1, r => .unusable :: gap n r
def poolList (es : List (Nat × CpInfo)) (last : Nat) : List CpInfo := es.foldr (fun e r => gap e.1 (e.2 :: r)) (gap last [])
def pool (es : List (Nat × CpInfo)) (last : Nat) : Array CpInfo := ⟨poolList es last⟩
def fileOf (pool : Array CpInfo) (this : Nat) (attrs : Array Attribute := #[]) (ms : Array MethodInfo := #[]) (fl : Nat := 33) (sup : Nat := 0) (ifs : Array Nat := #[]) (fds : Array FieldInfo := #[]) : ClassFile where
  minorVersion := 0
  majorVersion := 65
  constantPool := pool
  accessFlags := fl
  thisClass := this
  superClass := sup
  interfaces := ifs
  fields := fds
  methods := ms
  attributes := attrs
def plain (name : String) (sup : Option ClassId) : Class where
  name := name
  kind := .ordinary
  loader := none
  accessFlags := 33
  super := sup
  interfaces := #[]
  cf := none
  fields := #[]
  methods := #[]
  instanceTypes := #[]
  staticTypes := #[]
  resolved := #[]
  callSites := []
  init := .initialized
  statics := none
  mirror := none

def pool0 : Array CpInfo := pool [(5, u "<init>"), (0, u "()V"), (1, .class_ 10), (1, u "java/lang/Object")] 113

def k0m0 : Method := { name := "<init>", desc := "()V", sig := { parameters := [], returnType := none }, accessFlags := 1, code := none }
/-- java/lang/Object -/
def k0 : Class := { plain "java/lang/Object" none with
  accessFlags := 33
  interfaces := #[]
  cf := some (fileOf pool0 8 #[] #[{ accessFlags := 1, nameIndex := 5, descriptorIndex := 6, attributes := #[] }] 33 0 #[] #[])
  fields := #[]
  methods := #[k0m0]
  instanceTypes := #[]
  staticTypes := #[]
  resolved := Array.replicate 124 none
  statics := none }

def pool1 : Array CpInfo := pool [(2, .class_ 4), (1, u "java/lang/Object"), (0, u "<init>"), (0, u "()V"), (0, .fieldref 8 9), (0, .class_ 10), (0, .nameAndType 11 12), (0, u "com/example/sunder/sunder/query/Condition$Operator"), (0, u "EQUAL"), (0, u "Lcom/example/sunder/sunder/query/Condition$Operator;"), (0, .fieldref 8 14), (0, .nameAndType 15 12), (0, u "NOT_EQUAL"), (0, .fieldref 8 17), (0, .nameAndType 18 12), (0, u "LESS"), (0, .fieldref 8 20), (0, .nameAndType 21 12), (0, u "LESS_OR_EQUAL"), (0, .fieldref 8 23), (0, .nameAndType 24 12), (0, u "GREATER"), (0, .fieldref 8 26), (0, .nameAndType 27 12), (0, u "GREATER_OR_EQUAL"), (0, .integer 2147483647), (0, .methodref 30 31), (0, .class_ 32), (0, .nameAndType 33 34), (0, u "com/example/sunder/sunder/query/OperatorHoldsPinLaw"), (0, u "pick"), (0, u "(I)Lcom/example/sunder/sunder/query/Condition$Operator;"), (0, .methodref 8 36), (0, .nameAndType 37 38), (0, u "holds"), (0, u "(DD)Z"), (0, .methodref 30 40), (0, .nameAndType 41 42), (0, u "expected"), (0, u "(III)Z"), (3, u "law"), (0, u "(IIII)Z")] 6

def k1m0 : Method := { name := "<init>", desc := "()V", sig := { parameters := [], returnType := none }, accessFlags := 2, code := none }
def k1c1 : Code := { maxStack := 2, maxLocals := 1, code := method_2_code, exceptionTable := #[], attributes := #[] }
def k1m1 : Method := { name := "pick", desc := "(I)Lcom/example/sunder/sunder/query/Condition$Operator;", sig := { parameters := [.int], returnType := some (.object "com/example/sunder/sunder/query/Condition$Operator") }, accessFlags := 10, code := some k1c1 }
def k1c2 : Code := { maxStack := 2, maxLocals := 3, code := method_3_code, exceptionTable := #[], attributes := #[] }
def k1m2 : Method := { name := "expected", desc := "(III)Z", sig := { parameters := [.int, .int, .int], returnType := some .boolean }, accessFlags := 10, code := some k1c2 }
def k1c3 : Code := { maxStack := 5, maxLocals := 9, code := code, exceptionTable := #[], attributes := #[] }
def k1m3 : Method := { name := "law", desc := "(IIII)Z", sig := { parameters := [.int, .int, .int, .int], returnType := some .boolean }, accessFlags := 9, code := some k1c3 }
/-- com/example/sunder/sunder/query/OperatorHoldsPinLaw -/
def k1 : Class := { plain "com/example/sunder/sunder/query/OperatorHoldsPinLaw" (some 0) with
  accessFlags := 49
  interfaces := #[]
  cf := some (fileOf pool1 30 #[] #[{ accessFlags := 2, nameIndex := 5, descriptorIndex := 6, attributes := #[] }, { accessFlags := 10, nameIndex := 33, descriptorIndex := 34, attributes := #[] }, { accessFlags := 10, nameIndex := 41, descriptorIndex := 42, attributes := #[] }, { accessFlags := 9, nameIndex := 46, descriptorIndex := 47, attributes := #[] }] 49 2 #[] #[])
  fields := #[]
  methods := #[k1m0, k1m1, k1m2, k1m3]
  instanceTypes := #[]
  staticTypes := #[]
  resolved := Array.replicate 54 none
  statics := none }

def pool2 : Array CpInfo := pool [(1, .class_ 2), (0, u "java/lang/constant/Constable"), (0, .class_ 4), (0, u "java/lang/Object")] 6

/-- java/lang/constant/Constable -/
def k2 : Class := { plain "java/lang/constant/Constable" (some 0) with
  accessFlags := 1537
  interfaces := #[]
  cf := some (fileOf pool2 1 #[] #[] 1537 3 #[] #[])
  fields := #[]
  methods := #[]
  instanceTypes := #[]
  staticTypes := #[]
  resolved := Array.replicate 11 none
  statics := none }

def pool3 : Array CpInfo := pool [(1, .class_ 2), (0, u "java/lang/Comparable"), (0, .class_ 4), (0, u "java/lang/Object")] 7

/-- java/lang/Comparable -/
def k3 : Class := { plain "java/lang/Comparable" (some 0) with
  accessFlags := 1537
  interfaces := #[]
  cf := some (fileOf pool3 1 #[] #[] 1537 3 #[] #[])
  fields := #[]
  methods := #[]
  instanceTypes := #[]
  staticTypes := #[]
  resolved := Array.replicate 12 none
  statics := none }

def pool4 : Array CpInfo := pool [(1, .class_ 2), (0, u "java/io/Serializable"), (0, .class_ 4), (0, u "java/lang/Object")] 2

/-- java/io/Serializable -/
def k4 : Class := { plain "java/io/Serializable" (some 0) with
  accessFlags := 1537
  interfaces := #[]
  cf := some (fileOf pool4 1 #[] #[] 1537 3 #[] #[])
  fields := #[]
  methods := #[]
  instanceTypes := #[]
  staticTypes := #[]
  resolved := Array.replicate 7 none
  statics := none }

def pool5 : Array CpInfo := pool [(2, .class_ 4), (1, u "java/lang/Enum"), (0, u "name"), (0, u "Ljava/lang/String;"), (0, .fieldref 2 8), (0, .nameAndType 9 10), (0, u "ordinal"), (0, u "I"), (1, .class_ 14), (1, u "java/lang/Object"), (4, u "hash"), (86, .class_ 108), (1, u "java/lang/Enum$EnumDesc"), (2, .class_ 112), (0, u "java/lang/constant/Constable"), (0, .class_ 114), (0, u "java/lang/Comparable"), (0, .class_ 116), (0, u "java/io/Serializable"), (9, u "()I")] 77

def k5c0 : Code := { maxStack := 1, maxLocals := 1, code := jdk_37_method_2_code, exceptionTable := #[], attributes := #[] }
def k5m0 : Method := { name := "ordinal", desc := "()I", sig := { parameters := [], returnType := some .int }, accessFlags := 17, code := some k5c0 }
/-- java/lang/Enum -/
def k5 : Class := { plain "java/lang/Enum" (some 0) with
  accessFlags := 1057
  interfaces := #[2, 3, 4]
  cf := some (fileOf pool5 2 #[.nestMembers #[106]] #[{ accessFlags := 17, nameIndex := 9, descriptorIndex := 126, attributes := #[] }] 1057 12 #[111, 113, 115] #[{ accessFlags := 18, nameIndex := 5, descriptorIndex := 6, attributes := #[] }, { accessFlags := 18, nameIndex := 9, descriptorIndex := 10, attributes := #[] }, { accessFlags := 2, nameIndex := 19, descriptorIndex := 10, attributes := #[] }])
  fields := #[{ name := "name", type := (.object "java/lang/String"), accessFlags := 18, slot := 0, constantValue := 0 }, { name := "ordinal", type := .int, accessFlags := 18, slot := 1, constantValue := 0 }, { name := "hash", type := .int, accessFlags := 2, slot := 2, constantValue := 0 }]
  methods := #[k5m0]
  instanceTypes := #[(.object "java/lang/String"), .int, .int]
  staticTypes := #[]
  resolved := Array.replicate 204 none
  statics := none }

def pool6 : Array CpInfo := pool [(1, .class_ 2), (0, u "com/example/sunder/sunder/query/Condition$Operator"), (2, u "EQUAL"), (0, u "Lcom/example/sunder/sunder/query/Condition$Operator;"), (2, u "NOT_EQUAL"), (2, u "LESS"), (2, u "LESS_OR_EQUAL"), (2, u "GREATER"), (2, u "GREATER_OR_EQUAL"), (2, u "$VALUES"), (0, u "[Lcom/example/sunder/sunder/query/Condition$Operator;"), (6, .class_ 34), (1, u "java/lang/Enum"), (8, u "symbol"), (0, u "Ljava/lang/String;"), (0, .methodref 1 46), (0, .nameAndType 47 48), (0, u "ordinal"), (0, u "()I"), (38, u "holds"), (0, u "(DD)Z"), (7, .class_ 97), (0, u "com/example/sunder/sunder/query/Condition")] 2

def k6c0 : Code := { maxStack := 4, maxLocals := 5, code := prog_15_method_5_code, exceptionTable := #[], attributes := #[] }
def k6m0 : Method := { name := "holds", desc := "(DD)Z", sig := { parameters := [.double, .double], returnType := some .boolean }, accessFlags := 0, code := some k6c0 }
/-- com/example/sunder/sunder/query/Condition$Operator -/
def k6 : Class := { plain "com/example/sunder/sunder/query/Condition$Operator" (some 5) with
  accessFlags := 16433
  interfaces := #[]
  cf := some (fileOf pool6 1 #[.nestHost 96] #[{ accessFlags := 0, nameIndex := 87, descriptorIndex := 88, attributes := #[] }] 16433 32 #[] #[{ accessFlags := 16409, nameIndex := 5, descriptorIndex := 6, attributes := #[] }, { accessFlags := 16409, nameIndex := 9, descriptorIndex := 6, attributes := #[] }, { accessFlags := 16409, nameIndex := 12, descriptorIndex := 6, attributes := #[] }, { accessFlags := 16409, nameIndex := 15, descriptorIndex := 6, attributes := #[] }, { accessFlags := 16409, nameIndex := 18, descriptorIndex := 6, attributes := #[] }, { accessFlags := 16409, nameIndex := 21, descriptorIndex := 6, attributes := #[] }, { accessFlags := 18, nameIndex := 43, descriptorIndex := 44, attributes := #[] }, { accessFlags := 4122, nameIndex := 24, descriptorIndex := 25, attributes := #[] }])
  fields := #[{ name := "EQUAL", type := (.object "com/example/sunder/sunder/query/Condition$Operator"), accessFlags := 16409, slot := 0, constantValue := 0 }, { name := "NOT_EQUAL", type := (.object "com/example/sunder/sunder/query/Condition$Operator"), accessFlags := 16409, slot := 1, constantValue := 0 }, { name := "LESS", type := (.object "com/example/sunder/sunder/query/Condition$Operator"), accessFlags := 16409, slot := 2, constantValue := 0 }, { name := "LESS_OR_EQUAL", type := (.object "com/example/sunder/sunder/query/Condition$Operator"), accessFlags := 16409, slot := 3, constantValue := 0 }, { name := "GREATER", type := (.object "com/example/sunder/sunder/query/Condition$Operator"), accessFlags := 16409, slot := 4, constantValue := 0 }, { name := "GREATER_OR_EQUAL", type := (.object "com/example/sunder/sunder/query/Condition$Operator"), accessFlags := 16409, slot := 5, constantValue := 0 }, { name := "symbol", type := (.object "java/lang/String"), accessFlags := 18, slot := 3, constantValue := 0 }, { name := "$VALUES", type := (.array (.object "com/example/sunder/sunder/query/Condition$Operator")), accessFlags := 4122, slot := 6, constantValue := 0 }]
  methods := #[k6m0]
  instanceTypes := #[(.object "java/lang/String"), .int, .int, (.object "java/lang/String")]
  staticTypes := #[(.object "com/example/sunder/sunder/query/Condition$Operator"), (.object "com/example/sunder/sunder/query/Condition$Operator"), (.object "com/example/sunder/sunder/query/Condition$Operator"), (.object "com/example/sunder/sunder/query/Condition$Operator"), (.object "com/example/sunder/sunder/query/Condition$Operator"), (.object "com/example/sunder/sunder/query/Condition$Operator"), (.array (.object "com/example/sunder/sunder/query/Condition$Operator"))]
  resolved := Array.replicate 100 none
  statics := some 0 }

def pool7 : Array CpInfo := pool [(1, u "java/lang/Cloneable"), (0, .class_ 1), (0, u "java/lang/Object"), (0, .class_ 3)] 3

/-- java/lang/Cloneable -/
def k7 : Class := { plain "java/lang/Cloneable" (some 0) with
  accessFlags := 1537
  interfaces := #[]
  cf := some (fileOf pool7 2 #[] #[] 1537 4 #[] #[])
  fields := #[]
  methods := #[]
  instanceTypes := #[]
  staticTypes := #[]
  resolved := Array.replicate 8 none
  statics := none }

/-- the primitive byte -/
def k8 : Class := { plain "byte" none with kind := .primitive 'B', accessFlags := 0x411 }
/-- [B -/
def k9 : Class := { plain "[B" (some 0) with kind := .array 8 .byte, interfaces := #[7, 4], accessFlags := 1041 }

/-- the primitive int -/
def k10 : Class := { plain "int" none with kind := .primitive 'I', accessFlags := 0x411 }
/-- [I -/
def k11 : Class := { plain "[I" (some 0) with kind := .array 10 .int, interfaces := #[7, 4], accessFlags := 1041 }

def heap : Heap := #[{ cls := 6, slots := #[.ref 1, .ref 2, .ref 3, .ref 4, .ref 5, .ref 6, .null], vm := .statics 6 },
  { cls := 6, slots := #[.null, .int 0, .int 0, .null], vm := .none },
  { cls := 6, slots := #[.null, .int 1, .int 0, .null], vm := .none },
  { cls := 6, slots := #[.null, .int 2, .int 0, .null], vm := .none },
  { cls := 6, slots := #[.null, .int 3, .int 0, .null], vm := .none },
  { cls := 6, slots := #[.null, .int 4, .int 0, .null], vm := .none },
  { cls := 6, slots := #[.null, .int 5, .int 0, .null], vm := .none }]
def classes : Array Class := #[k0, k1, k2, k3, k4, k5, k6, k7, k8, k9, k10, k11]
def interned : List (Array UInt16 × Addr) := []
def slotsUsed : Nat := 31
def theMethod : MethodId := ⟨1, 3⟩
def args0 : Array Value := #[.int 5, .int 3, .int 4, .int 0]
def aboutOver (below : List Frame) : State where
  vm := { classes := classes, interned := interned.toArray }
  heap := heap
  slotsUsed := slotsUsed
  threads := #[{ frames := .invoking theMethod args0 :: below }]
def below0 : List Frame := [.native { method := ⟨0, 0⟩, args := #[] }]
def about1 : State := aboutOver below0
def p0 : Program := .bare "" "" ""
def e0 : Env := launch0.env 0 0 0
theorem w_frames : about1.frames = Frame.invoking theMethod args0 :: below0 := rfl
set_option maxRecDepth 65536 in
theorem w_args : argsFit about1.vm theMethod args0 = true := by decide +kernel
set_option maxRecDepth 65536 in
theorem w_heap : heapFits about1 = true := by decide +kernel
set_option maxRecDepth 65536 in
theorem w_runnable : about1.curStatus? = some .runnable := by decide +kernel
set_option maxRecDepth 65536 in
theorem w_alone : about1.alone = true := by decide +kernel
set_option maxRecDepth 65536 in
theorem w_named : about1.methodNamed? x = some theMethod := by decide +kernel
set_option maxRecDepth 65536 in
theorem w_hears : about1.hears theMethod below0 = true := by decide +kernel
set_option maxRecDepth 65536 in
theorem w_ripe : about1.ripe theMethod args0 below0 = true := by decide +kernel
theorem w_running : about1.status = .running := rfl
set_option maxRecDepth 65536 in
theorem w_room : about1.hasRoom e0.platform room_1 = true :=
  launch0.hasRoom_least _ room_1 (by decide +kernel) (by decide +kernel) (by decide +kernel) (by decide +kernel) (by decide +kernel) (by decide +kernel)
theorem allAtoms_all (ts : List Jvm.Cond) (a : Array Jvm.Value) (st : Jvm.State) : (allAtoms ts).before a st = ts.all (fun c => c.before a st) := by
  induction ts with
  | nil => rfl
  | cons c t ih =>
    show (Jvm.Cond.and c (allAtoms t)).before a st = _
    rw [Jvm.Cond.before_and, ih, List.all_cons]
def words1 : List Jvm.Cond := Jvm.Cond.code x code maxLocals ret :: tables_1
/-- a 'code' word, met by the world's own term for the bytes: nothing is compared byte by byte -/
theorem code_word {y : MethodName} {bytes : ByteArray} {mx : Nat} {rt : Option FieldType} {a : Array Value} {s : State} {m : MethodId} {meth : Method} {c : Code} (h1 : s.methodNamed? y = some m) (h2 : s.vm.method? m = some meth) (h3 : meth.code = some c) (h4 : c.code = bytes)
    (h5 : (c.maxLocals == mx && c.exceptionTable.isEmpty && decide (c.maxStack ≤ mostOperands) && decide (meth.sig.returnType = rt) && !meth.locks && decide (parseMethodDescriptor y.desc = some meth.sig)) = true) : (Jvm.Cond.code y bytes mx rt).before a s = true := by
  simp only [Bool.and_eq_true, beq_iff_eq, Bool.not_eq_true', decide_eq_true_eq] at h5
  obtain ⟨⟨⟨⟨⟨g1, g2⟩, g3⟩, g4⟩, g5⟩, g6⟩ := h5
  simp [Cond.before, Cond.holds, Cond.value, h1, h2, h3, h4, g1, g2, g3, g4, g5, g6]
def isCode : Jvm.Cond → Bool
  | .code _ _ _ _ => true
  | _ => false
theorem all_split {L : List Jvm.Cond} {P : Jvm.Cond → Bool} (h1 : L.all (fun c => isCode c || P c) = true) (h2 : ∀ c ∈ L.filter isCode, P c = true) : L.all P = true := by
  refine List.all_eq_true.mpr fun c hc => ?_
  have h := List.all_eq_true.mp h1 c hc
  rcases Bool.eq_false_or_eq_true (isCode c) with hi | hi
  · exact h2 c (List.mem_filter.mpr ⟨hc, hi⟩)
  · simpa [hi] using h
set_option maxRecDepth 65536 in
theorem w_c0 : (Jvm.Cond.code x code maxLocals ret).before args0 about1 = true := code_word (m := ⟨1, 3⟩) (meth := k1m3) (c := k1c3) (by decide +kernel) rfl rfl rfl (by decide +kernel)
set_option maxRecDepth 65536 in
theorem w_c1 : (Jvm.Cond.code ({ cls := "com/example/sunder/sunder/query/OperatorHoldsPinLaw", name := "pick", desc := "(I)Lcom/example/sunder/sunder/query/Condition$Operator;" } : Jvm.MethodName) method_2_code (1 : Nat) (Option.some (Jvm.ClassFile.FieldType.object "com/example/sunder/sunder/query/Condition$Operator"))).before args0 about1 = true := code_word (m := ⟨1, 1⟩) (meth := k1m1) (c := k1c1) (by decide +kernel) rfl rfl rfl (by decide +kernel)
set_option maxRecDepth 65536 in
theorem w_c2 : (Jvm.Cond.code ({ cls := "com/example/sunder/sunder/query/Condition$Operator", name := "holds", desc := "(DD)Z" } : Jvm.MethodName) prog_15_method_5_code (5 : Nat) (Option.some Jvm.ClassFile.FieldType.boolean)).before args0 about1 = true := code_word (m := ⟨6, 0⟩) (meth := k6m0) (c := k6c0) (by decide +kernel) rfl rfl rfl (by decide +kernel)
set_option maxRecDepth 65536 in
theorem w_c3 : (Jvm.Cond.code ({ cls := "java/lang/Enum", name := "ordinal", desc := "()I" } : Jvm.MethodName) jdk_37_method_2_code (1 : Nat) (Option.some Jvm.ClassFile.FieldType.int)).before args0 about1 = true := code_word (m := ⟨5, 0⟩) (meth := k5m0) (c := k5c0) (by decide +kernel) rfl rfl rfl (by decide +kernel)
set_option maxRecDepth 65536 in
theorem w_c4 : (Jvm.Cond.code ({ cls := "com/example/sunder/sunder/query/OperatorHoldsPinLaw", name := "expected", desc := "(III)Z" } : Jvm.MethodName) method_3_code (3 : Nat) (Option.some Jvm.ClassFile.FieldType.boolean)).before args0 about1 = true := code_word (m := ⟨1, 2⟩) (meth := k1m2) (c := k1c2) (by decide +kernel) rfl rfl rfl (by decide +kernel)
def codes1 : List Jvm.Cond := [Jvm.Cond.code x code maxLocals ret, Jvm.Cond.code ({ cls := "com/example/sunder/sunder/query/OperatorHoldsPinLaw", name := "pick", desc := "(I)Lcom/example/sunder/sunder/query/Condition$Operator;" } : Jvm.MethodName) method_2_code (1 : Nat) (Option.some (Jvm.ClassFile.FieldType.object "com/example/sunder/sunder/query/Condition$Operator")), Jvm.Cond.code ({ cls := "com/example/sunder/sunder/query/Condition$Operator", name := "holds", desc := "(DD)Z" } : Jvm.MethodName) prog_15_method_5_code (5 : Nat) (Option.some Jvm.ClassFile.FieldType.boolean), Jvm.Cond.code ({ cls := "java/lang/Enum", name := "ordinal", desc := "()I" } : Jvm.MethodName) jdk_37_method_2_code (1 : Nat) (Option.some Jvm.ClassFile.FieldType.int), Jvm.Cond.code ({ cls := "com/example/sunder/sunder/query/OperatorHoldsPinLaw", name := "expected", desc := "(III)Z" } : Jvm.MethodName) method_3_code (3 : Nat) (Option.some Jvm.ClassFile.FieldType.boolean)]
set_option maxRecDepth 65536 in
theorem codes_eq : words1.filter isCode = codes1 := rfl
theorem w_codes : ∀ c ∈ words1.filter isCode, c.before args0 about1 = true := by
  rw [codes_eq]
  intro c hc
  simp only [codes1, List.mem_cons, List.not_mem_nil, or_false] at hc
  rcases hc with rfl | rfl | rfl | rfl | rfl
  · exact w_c0
  · exact w_c1
  · exact w_c2
  · exact w_c3
  · exact w_c4
set_option maxRecDepth 65536 in
theorem w_t1 : (words1.take 24).all (fun c => isCode c || c.before args0 about1) = true := by decide +kernel
set_option maxRecDepth 65536 in
theorem w_t2 : (words1.drop 24).all (fun c => isCode c || c.before args0 about1) = true := by decide +kernel
theorem w_tables : (allAtoms (Jvm.Cond.code x code maxLocals ret :: tables_1)).before args0 about1 = true := by
  rw [allAtoms_all]
  show words1.all (fun c => c.before args0 about1) = true
  refine all_split ?_ w_codes
  rw [← List.take_append_drop 24 words1, List.all_append, w_t1, w_t2]
  rfl
set_option maxRecDepth 65536 in
theorem w_case : (Jvm.Cond.and given_1 narrow_1).before args0 about1 = true := by decide +kernel
theorem w_applies : (headSpec (Jvm.Cond.code x code maxLocals ret :: tables_1) room_1).applies x e0.platform about1 = true :=
  (Spec.applies_iff w_frames).mpr ⟨w_running, w_runnable, w_alone, w_named, w_hears, w_ripe, w_room, w_tables⟩
theorem atStart : AtStart classFile x code maxLocals ret World_1 tables_1 room_1 Calls_1 rest_1 Pre_1 launch0 p0 e0 about1 theMethod args0 below0 :=
  ⟨lists_1, trivial, launch0.admits_env _ _ _, launch0.least_env, fairChoices_fair.cas, fairChoices_fair.clock, w_frames, w_args, w_heap, w_applies, trivial, trivial, w_case⟩
end start1
theorem witness_1 : WitnessClaimed_1 := ⟨start1.p0, start1.e0, start1.about1, start1.theMethod, start1.args0, start1.below0, start1.atStart⟩
end Jvm.Pilot.@@N@@
