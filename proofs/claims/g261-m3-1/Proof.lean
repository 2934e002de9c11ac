import JvmDerived
import JvmDerived.Pilot.@@N@@Statement
import JvmDerived.Pilot.@@N@@Code
set_option linter.unusedVariables false
set_option linter.unusedSimpArgs false
namespace Jvm.Pilot.@@N@@
open Jvm Jvm.ClassFile Sem Op Lib Jvm.Free Jvm.Stand Jvm.LawKit Jvm.RoadKit Bundle Jvm.Pilot.@@N@@.Jvm.D
/-! own kit: a walk that goes forward: Go says what is still owed from the state S -/
section OwnGo
variable {p : Program} {l : Launch} {e : Env} {R : Room} {s : State} {m : MethodId} {args : Array Value} {below : List Frame} {meth : Method} {c : Code} {T : State} {locs : List Loc} {cells slots : Nat} {Z : State} {a0 : Array Value} {h : Heap} {G : Outcome → State → Prop} {S S' : State}
def Go (p : Program) (e : Env) (below : List Frame) (G : Outcome → State → Prop) (S : State) : Prop :=
  ∃ s₂ o, Steps p.tables e below S s₂ ∧ s₂.status = .running ∧ Ended s₂ below o ∧ G o s₂
theorem Go.st (h : ∀ t, Steps p.tables e below S' t → Steps p.tables e below S t) (k : Go p e below G S') : Go p e below G S := by
  obtain ⟨s₂, o, h1, h2⟩ := k
  exact ⟨s₂, o, h _ h1, h2⟩
theorem Go.tr (h : Steps p.tables e below S S') (k : Go p e below G S') : Go p e below G S := by
  obtain ⟨s₂, o, h1, h2⟩ := k
  exact ⟨s₂, o, h.trans h1, h2⟩
theorem Go.cast {g g' : JFrame} (q : g = g') (k : Go p e below G (T.setTop g')) : Go p e below G (T.setTop g) := q ▸ k
/-- what a body leaves: Q of the value, the heap and the places written -/
def Left (s : State) (K N : Nat) (Q : Option Value → Heap → List Loc → Prop) : Outcome → State → Prop :=
  fun o t => ∃ v L, o = .returned v ∧ Q v t.heap L ∧ FrameEnd s o t L K N
/-- a body's contract -/
def Pays (l : Launch) (y : MethodName) (bytes : ByteArray) (maxL : Nat) (ret : Option FieldType) (rm : Room) (Z : State) (as' : Array Value) (h0 : Heap) (Q : Option Value → Heap → List Loc → Prop) : Prop :=
  ∀ ws, MetFree l y (head1 (Cond.code y bytes maxL ret :: ws) rm) (fun a U => a = as' ∧ Z.Warmed39 U.vm ∧ U.heap = h0) (fun _ _ _ _ _ => True) (fun _ U o U' => ∃ v L, o = .returned v ∧ Q v U'.heap L ∧ FrameEnd U o U' L rm.cells rm.slots)
theorem Pays.of {y : MethodName} {bytes : ByteArray} {maxL : Nat} {ret : Option FieldType} {rm : Room} {as' : Array Value} {h0 : Heap} {Q : Option Value → Heap → List Loc → Prop} (hx : plainFor y = true)
    (body : ∀ (p : Program) (e : Env) (s : State) (m : MethodId) (below : List Frame) (meth : Method) (c : Code) (T : State), p.tables.exec = Jvm.exec → c.code = bytes → c.maxLocals = maxL → meth.sig.returnType = ret → meth.locks = false → Z.Warmed39 s.vm → s.vm.findClass y.cls = some m.cls → meth.name = y.name →
      T.heap = h0 → Stand p l e rm s m as' below meth c T [] 0 0 → Go p e below (Left s rm.cells rm.slots Q) (T.setTop (entryFrame m as' maxL))) : Pays l y bytes maxL ret rm Z as' h0 Q := by
  intro ws
  refine MetFree.of_bodySF hx hisR ?_
  intro p e s m args below meth c s₁ Bd hml0 hP hK
  obtain ⟨rfl, hZ, hh⟩ := hP
  exact body p e s m below meth c s₁ Bd.exec Bd.bytes hml0 Bd.returns Bd.notSynchronized hZ (findClass_of_methodNamed Bd.named) (name_of_methodNamed Bd.named Bd.method).1 (by rw [← hh, Bd.state]; rfl) (Stand.of_body Bd)
theorem Go.out (X : Stand p l e R s m args below meth c T locs cells slots) {v : Option Value} {K N : Nat} {Q : Option Value → Heap → List Loc → Prop} (hlocks : meth.locks = false) (hv : meth.sig.returnType = none → v = none) (hK : cells ≤ K) (hN : slots ≤ N) (hQ : Q v T.heap locs)
    (st : ∀ fs, (∀ (f : JFrame) (acts : List Action), f.method = m → f.locked = none → f.entered = [] → (doReturn e (T.setTop f) acts v).1 = T.setFrames fs) → Steps p.tables e below S (T.setFrames fs)) : Go p e below (Left s K N Q) S := by
  obtain ⟨fs, hr, hrun, hended, hW, hsame⟩ := X.leave hv hlocks
  exact ⟨_, _, st fs hr, hrun, hended, v, locs, rfl, hQ, ⟨_, rfl⟩, hW, hsame.mono hK hN⟩
theorem ret_b (X : Stand p l e R s m args below meth c T locs cells slots) (hx : p.tables.exec = Jvm.exec) (hlocks : meth.locks = false) (hret : meth.sig.returnType = some .boolean) {pc : Nat} {Ls : Array Slot} {z : Int32} {rest : List Value} {K N : Nat} {Q : Option Value → Heap → List Loc → Prop} (hd : decode c.code pc = .ok (.ireturn, 1)) (hK : cells ≤ K) (hN : slots ≤ N)
    (hQ : Q (some (.int (z &&& 1))) T.heap locs) : Go p e below (Left s K N Q) (T.setTop (mkF m pc Ls (.int z :: rest))) :=
  Go.out X (v := some (.int (z &&& 1))) hlocks (fun h => by rw [hret] at h; cases h) hK hN hQ fun fs hr => retN X hx (t := .boolean) hret (by simp) hd hr
theorem ret_c (X : Stand p l e R s m args below meth c T locs cells slots) (hx : p.tables.exec = Jvm.exec) (hlocks : meth.locks = false) (hret : meth.sig.returnType = some .char) {pc : Nat} {Ls : Array Slot} {z : Int32} {rest : List Value} {K N : Nat} {Q : Option Value → Heap → List Loc → Prop} (hd : decode c.code pc = .ok (.ireturn, 1)) (hK : cells ≤ K) (hN : slots ≤ N)
    (hQ : Q (some (.int (nar .char z))) T.heap locs) : Go p e below (Left s K N Q) (T.setTop (mkF m pc Ls (.int z :: rest))) :=
  Go.out X (v := some (.int (nar .char z))) hlocks (fun h => by rw [hret] at h; cases h) hK hN hQ fun fs hr => retN X hx (t := .char) hret (by simp) hd hr
theorem ret_y (X : Stand p l e R s m args below meth c T locs cells slots) (hx : p.tables.exec = Jvm.exec) (hlocks : meth.locks = false) (hret : meth.sig.returnType = some .byte) {pc : Nat} {Ls : Array Slot} {z : Int32} {rest : List Value} {K N : Nat} {Q : Option Value → Heap → List Loc → Prop} (hd : decode c.code pc = .ok (.ireturn, 1)) (hK : cells ≤ K) (hN : slots ≤ N)
    (hQ : Q (some (.int (nar .byte z))) T.heap locs) : Go p e below (Left s K N Q) (T.setTop (mkF m pc Ls (.int z :: rest))) :=
  Go.out X (v := some (.int (nar .byte z))) hlocks (fun h => by rw [hret] at h; cases h) hK hN hQ fun fs hr => retN X hx (t := .byte) hret (by simp) hd hr
theorem ret_i (X : Stand p l e R s m args below meth c T locs cells slots) (hx : p.tables.exec = Jvm.exec) (hlocks : meth.locks = false) (hret : meth.sig.returnType = some .int) {pc : Nat} {Ls : Array Slot} {z : Int32} {rest : List Value} {K N : Nat} {Q : Option Value → Heap → List Loc → Prop} (hd : decode c.code pc = .ok (.ireturn, 1)) (hK : cells ≤ K) (hN : slots ≤ N)
    (hQ : Q (some (.int z)) T.heap locs) : Go p e below (Left s K N Q) (T.setTop (mkF m pc Ls (.int z :: rest))) :=
  Go.out X (v := some (.int z)) hlocks (fun h => by rw [hret] at h; cases h) hK hN hQ fun fs hr => retOut X hx hret rfl (Or.inl ⟨rfl, Or.inl rfl, z, rfl⟩) hd hr
theorem ret_l (X : Stand p l e R s m args below meth c T locs cells slots) (hx : p.tables.exec = Jvm.exec) (hlocks : meth.locks = false) (hret : meth.sig.returnType = some .long) {pc : Nat} {Ls : Array Slot} {z : Int64} {rest : List Value} {K N : Nat} {Q : Option Value → Heap → List Loc → Prop} (hd : decode c.code pc = .ok (.lreturn, 1)) (hK : cells ≤ K) (hN : slots ≤ N)
    (hQ : Q (some (.long z)) T.heap locs) : Go p e below (Left s K N Q) (T.setTop (mkF m pc Ls (.long z :: rest))) :=
  Go.out X (v := some (.long z)) hlocks (fun h => by rw [hret] at h; cases h) hK hN hQ fun fs hr => retOut X hx hret rfl (Or.inr (Or.inl ⟨rfl, rfl, z, rfl⟩)) hd hr
theorem ret_d (X : Stand p l e R s m args below meth c T locs cells slots) (hx : p.tables.exec = Jvm.exec) (hlocks : meth.locks = false) (hret : meth.sig.returnType = some .double) {pc : Nat} {Ls : Array Slot} {z : UInt64} {rest : List Value} {K N : Nat} {Q : Option Value → Heap → List Loc → Prop} (hd : decode c.code pc = .ok (.dreturn, 1)) (hK : cells ≤ K) (hN : slots ≤ N)
    (hQ : Q (some (.double z)) T.heap locs) : Go p e below (Left s K N Q) (T.setTop (mkF m pc Ls (.double z :: rest))) :=
  Go.out X (v := some (.double z)) hlocks (fun h => by rw [hret] at h; cases h) hK hN hQ fun fs hr => retOut X hx hret rfl (Or.inr (Or.inr (Or.inl ⟨rfl, rfl, z, rfl⟩))) hd hr
theorem ret_a (X : Stand p l e R s m args below meth c T locs cells slots) (hx : p.tables.exec = Jvm.exec) (hlocks : meth.locks = false) {t : FieldType} (hret : meth.sig.returnType = some t) (ht : t.isReference = true) {pc : Nat} {Ls : Array Slot} {v : Value} (hv : v.isRef = true) {rest : List Value} {K N : Nat} {Q : Option Value → Heap → List Loc → Prop} (hd : decode c.code pc = .ok (.areturn, 1)) (hK : cells ≤ K) (hN : slots ≤ N)
    (hQ : Q (some v) T.heap locs) : Go p e below (Left s K N Q) (T.setTop (mkF m pc Ls (v :: rest))) :=
  Go.out X (v := some v) hlocks (fun h => by rw [hret] at h; cases h) hK hN hQ fun fs hr => retOut X hx hret (by rcases ref_cases hv with rfl | ⟨a, rfl⟩ <;> cases t <;> first | rfl | cases ht) (Or.inr (Or.inr (Or.inr (Or.inr ⟨rfl, ht, hv⟩)))) hd hr
theorem ret_v (X : Stand p l e R s m args below meth c T locs cells slots) (hx : p.tables.exec = Jvm.exec) (hlocks : meth.locks = false) (hret : meth.sig.returnType = none) {pc : Nat} {Ls : Array Slot} {K N : Nat} {Q : Option Value → Heap → List Loc → Prop} (hd : decode c.code pc = .ok (.return_, 1)) (hK : cells ≤ K) (hN : slots ≤ N)
    (hQ : Q none T.heap locs) : Go p e below (Left s K N Q) (T.setTop (mkF m pc Ls [])) :=
  Go.out X (v := none) hlocks (fun _ => rfl) hK hN hQ fun fs hr => X.returnOut hx hret hd hr
/-- a call of an instance method, by its contract -/
theorem Go.virt (X : Stand p l e R s m args below meth c T locs cells slots) (hx : p.tables.exec = Jvm.exec) (hZ : Z.Warmed39 s.vm) {own C : String} {index : Nat} {y z : MethodName} (hown : s.vm.findClass own = some m.cls) (wl : (Cond.methodLink own index y).before a0 Z = true) (wd : (Cond.declares y).before a0 Z = true) (nf : NotFace s y)
    (wsel : (Cond.selects C y z).before a0 Z = true) (wi : (Cond.instanceMethod z).before a0 Z = true) {bytes : ByteArray} {maxL : Nat} {ret : Option FieldType} (wc : (Cond.code z bytes maxL ret).before a0 Z = true) (wz : (Cond.initialized z.cls).before a0 Z = true) (hy : y.cls ≠ "java/lang/invoke/MethodHandle" ∧ y.cls ≠ "java/lang/invoke/VarHandle")
    {rm : Room} {Q : Option Value → Heap → List Loc → Prop} {b : Addr} {argsL rest : List Value} (P : Pays l z bytes maxL ret rm Z (.ref b :: argsL).toArray h Q) (eT : T.heap = h) (E : Exa Z h b C) {pc : Nat} {Ls : Array Slot} {st : List Value} (hst : st = argsL.reverse ++ .ref b :: rest) (hsz : Ls.size = c.maxLocals) {ps : List FieldType} {r : Option FieldType} (hpd : parseMethodDescriptor y.desc = some ⟨ps, r⟩) (hlen : argsL.length = ps.length)
    (hd : decode c.code pc = .ok (.invokevirtual index, 3)) (W : Nat) (hW : (rest.map fun v => v.category).sum ≤ W) (hf : rm.frames + 1 ≤ R.frames) (hl : W + (maxL + 11) + rm.locals ≤ R.locals) (hc : cells + rm.cells ≤ R.cells) (hs : slots + rm.slots ≤ R.slots)
    (k : ∀ (v : Option Value) (T' : State) (L : List Loc), Stand p l e R s m args below meth c T' (locs ++ L) (cells + rm.cells) (slots + rm.slots) → Q v T'.heap L → Go p e below G (T'.setTop (mkF m (pc + 3) Ls (v.toList ++ rest)))) : Go p e below G (T.setTop (mkF m pc Ls st)) := by
  obtain ⟨cB, kB, hcB, -, hrecv⟩ := isOf hZ eT E
  obtain ⟨v, _, ⟨T', L', k', n'⟩, -, X', ⟨L, hQ, h1, h2, h3⟩, stp⟩ := X.virtualBack hx hown (mvT hZ wl) (mvT hZ wd) nf (mvT hZ wsel) (mvT hZ wi) hy (backOf (W := W) (P []) hZ wc wz hf hl) hcB hrecv (g := mkF m pc Ls st) rfl hsz (Steps.refl _) (argsL := argsL) (rest := rest) (lenOf hpd hlen) hst (by show 2 * 0 + _ ≤ _; omega) hd (fun _ _ => ⟨rfl, eT, hc, hs⟩)
  dsimp only at X' hQ h1 h2 h3 stp
  subst h1 h2 h3
  exact Go.tr stp (k v T' L X' hQ)
/-- a call of an inherited method through a subclass's name, by its contract -/
theorem Go.up (X : Stand p l e R s m args below meth c T locs cells slots) (hx : p.tables.exec = Jvm.exec) (hZ : Z.Warmed39 s.vm) {own C owner : String} {index : Nat} {xm y : MethodName} (hown : s.vm.findClass own = some m.cls) (wl : (Cond.methodLink own index xm).before a0 Z = true) (wsm : (Cond.sameMethod xm.cls owner xm.name xm.desc).before a0 Z = true)
    (wd : (Cond.declares ⟨owner, xm.name, xm.desc⟩).before a0 Z = true) (wsel : (Cond.selects C xm y).before a0 Z = true) (wi : (Cond.instanceMethod y).before a0 Z = true) {bytes : ByteArray} {maxL : Nat} {ret : Option FieldType} (wc : (Cond.code y bytes maxL ret).before a0 Z = true) (wz : (Cond.initialized y.cls).before a0 Z = true) (hy : owner ≠ "java/lang/invoke/MethodHandle" ∧ owner ≠ "java/lang/invoke/VarHandle")
    {rm : Room} {Q : Option Value → Heap → List Loc → Prop} {b : Addr} {argsL rest : List Value} (P : Pays l y bytes maxL ret rm Z (.ref b :: argsL).toArray h Q) (eT : T.heap = h) (E : Exa Z h b C) {pc : Nat} {Ls : Array Slot} {st : List Value} (hst : st = argsL.reverse ++ .ref b :: rest) (hsz : Ls.size = c.maxLocals) {ps : List FieldType} {r : Option FieldType} (hpd : parseMethodDescriptor xm.desc = some ⟨ps, r⟩) (hlen : argsL.length = ps.length)
    (hd : decode c.code pc = .ok (.invokevirtual index, 3)) (W : Nat) (hW : (rest.map fun v => v.category).sum ≤ W) (hf : rm.frames + 1 ≤ R.frames) (hl : W + (maxL + 11) + rm.locals ≤ R.locals) (hc : cells + rm.cells ≤ R.cells) (hs : slots + rm.slots ≤ R.slots)
    (k : ∀ (v : Option Value) (T' : State) (L : List Loc), Stand p l e R s m args below meth c T' (locs ++ L) (cells + rm.cells) (slots + rm.slots) → Q v T'.heap L → Go p e below G (T'.setTop (mkF m (pc + 3) Ls (v.toList ++ rest)))) : Go p e below G (T.setTop (mkF m pc Ls st)) := by
  obtain ⟨cB, kB, hcB, -, hrecv⟩ := isOf hZ eT E
  obtain ⟨v, _, ⟨T', L', k', n'⟩, -, X', ⟨L, hQ, h1, h2, h3⟩, stp⟩ := X.virtualBackUp hx hown (mvT hZ wl) (mvT hZ wsm) (mvT hZ wd) hy (mvT hZ wsel) (mvT hZ wi) (backOf (W := W) (P []) hZ wc wz hf hl) hcB hrecv (g := mkF m pc Ls st) rfl hsz (Steps.refl _) (argsL := argsL) (rest := rest) (lenOf hpd hlen) hst (by show 2 * 0 + _ ≤ _; omega) hd (fun _ _ => ⟨rfl, eT, hc, hs⟩)
  dsimp only at X' hQ h1 h2 h3 stp
  subst h1 h2 h3
  exact Go.tr stp (k v T' L X' hQ)
/-- a call of a private instance method by invokevirtual, by its contract -/
theorem Go.priv (X : Stand p l e R s m args below meth c T locs cells slots) (hx : p.tables.exec = Jvm.exec) (hZ : Z.Warmed39 s.vm) {own C : String} {index : Nat} {y : MethodName} (hown : s.vm.findClass own = some m.cls) (wl : (Cond.methodLink own index y).before a0 Z = true) (wi : (Cond.instanceMethod y).before a0 Z = true)
    (wsel : (Cond.selects y.cls y y).before a0 Z = true) (wp : (Cond.privateMethod y).before a0 Z = true) {bytes : ByteArray} {maxL : Nat} {ret : Option FieldType} (wc : (Cond.code y bytes maxL ret).before a0 Z = true) (wz : (Cond.initialized y.cls).before a0 Z = true) (hy : y.cls ≠ "java/lang/invoke/MethodHandle" ∧ y.cls ≠ "java/lang/invoke/VarHandle")
    {rm : Room} {Q : Option Value → Heap → List Loc → Prop} {b : Addr} {argsL rest : List Value} (P : Pays l y bytes maxL ret rm Z (.ref b :: argsL).toArray h Q) (eT : T.heap = h) (E : Exa Z h b C) {pc : Nat} {Ls : Array Slot} {st : List Value} (hst : st = argsL.reverse ++ .ref b :: rest) (hsz : Ls.size = c.maxLocals) {ps : List FieldType} {r : Option FieldType} (hpd : parseMethodDescriptor y.desc = some ⟨ps, r⟩) (hlen : argsL.length = ps.length)
    (hd : decode c.code pc = .ok (.invokevirtual index, 3)) (W : Nat) (hW : (rest.map fun v => v.category).sum ≤ W) (hf : rm.frames + 1 ≤ R.frames) (hl : W + (maxL + 11) + rm.locals ≤ R.locals) (hc : cells + rm.cells ≤ R.cells) (hs : slots + rm.slots ≤ R.slots)
    (k : ∀ (v : Option Value) (T' : State) (L : List Loc), Stand p l e R s m args below meth c T' (locs ++ L) (cells + rm.cells) (slots + rm.slots) → Q v T'.heap L → Go p e below G (T'.setTop (mkF m (pc + 3) Ls (v.toList ++ rest)))) : Go p e below G (T.setTop (mkF m pc Ls st)) := by
  obtain ⟨cell, hcell, hobj⟩ := E.cell
  obtain ⟨v, _, ⟨T', L', k', n'⟩, -, X', ⟨L, hQ, h1, h2, h3⟩, stp⟩ := X.privateBack hx hown (mvT hZ wl) (mvT hZ wi) (mvT hZ wsel) (Cond.privateMethod_at (mvP (args := args) hZ wp)) (mvT hZ wc) hy (backOf (W := W) (P []) hZ wc wz hf hl) (g := mkF m pc Ls st) rfl hsz (Steps.refl _) (a := b) (by rw [eT]; exact hcell) hobj (argsL := argsL) (rest := rest) (lenOf hpd hlen) hst (by show 2 * 0 + _ ≤ _; omega) hd (fun _ _ => ⟨rfl, eT, hc, hs⟩)
  dsimp only at X' hQ h1 h2 h3 stp
  subst h1 h2 h3
  exact Go.tr stp (k v T' L X' hQ)
/-- a call of an interface's method, by the contract of the method that it goes to -/
theorem Go.face (X : Stand p l e R s m args below meth c T locs cells slots) (hx : p.tables.exec = Jvm.exec) (hZ : Z.Warmed39 s.vm) {own C : String} {index count : Nat} {xi y : MethodName} (hown : s.vm.findClass own = some m.cls) (wl : (Cond.methodLink own index xi).before a0 Z = true) (wd : (Cond.declares xi).before a0 Z = true)
    (wf : (Cond.interfaceMethod xi.cls xi.cls xi.name xi.desc).before args s = true) (wsel : (Cond.selects C xi y).before a0 Z = true) (wi : (Cond.instanceMethod y).before a0 Z = true) (wpub : (Cond.publicMethod y).before a0 Z = true) (wun : (Cond.unhidden C xi.name xi.desc).before a0 Z = true) (wca : (Cond.castable C xi.cls).before a0 Z = true)
    {bytes : ByteArray} {maxL : Nat} {ret : Option FieldType} (wc : (Cond.code y bytes maxL ret).before a0 Z = true) (wz : (Cond.initialized y.cls).before a0 Z = true) (hy : xi.cls ≠ "java/lang/invoke/MethodHandle" ∧ xi.cls ≠ "java/lang/invoke/VarHandle")
    {rm : Room} {Q : Option Value → Heap → List Loc → Prop} {b : Addr} {argsL rest : List Value} (P : Pays l y bytes maxL ret rm Z (.ref b :: argsL).toArray h Q) (eT : T.heap = h) (E : Exa Z h b C) {pc : Nat} {Ls : Array Slot} {st : List Value} (hst : st = argsL.reverse ++ .ref b :: rest) (hsz : Ls.size = c.maxLocals) {ps : List FieldType} {r : Option FieldType} (hpd : parseMethodDescriptor xi.desc = some ⟨ps, r⟩) (hlen : argsL.length = ps.length)
    (hd : decode c.code pc = .ok (.invokeinterface index count, 5)) (W : Nat) (hW : (rest.map fun v => v.category).sum ≤ W) (hf : rm.frames + 1 ≤ R.frames) (hl : W + (maxL + 11) + rm.locals ≤ R.locals) (hc : cells + rm.cells ≤ R.cells) (hs : slots + rm.slots ≤ R.slots)
    (k : ∀ (v : Option Value) (T' : State) (L : List Loc), Stand p l e R s m args below meth c T' (locs ++ L) (cells + rm.cells) (slots + rm.slots) → Q v T'.heap L → Go p e below G (T'.setTop (mkF m (pc + 5) Ls (v.toList ++ rest)))) : Go p e below G (T.setTop (mkF m pc Ls st)) := by
  obtain ⟨cB, kB, hcB, hkB, hrecv⟩ := isOf hZ eT E
  obtain ⟨v, _, ⟨T', L', k', n'⟩, -, X', ⟨L, hQ, h1, h2, h3⟩, stp⟩ := X.interfaceBack hx hown (mvT hZ wl) (mvT hZ wd) wf (mvT hZ wsel) (mvT hZ wi) (mvT hZ wpub) (mvT hZ wun) (mvT hZ wca) hy (backOf (W := W) (P []) hZ wc wz hf hl) hcB hkB hrecv (g := mkF m pc Ls st) rfl hsz (Steps.refl _) (argsL := argsL) (rest := rest) (lenOf hpd hlen) hst (by show 2 * 0 + _ ≤ _; omega) hd (fun _ _ => ⟨rfl, eT, hc, hs⟩)
  dsimp only at X' hQ h1 h2 h3 stp
  subst h1 h2 h3
  exact Go.tr stp (k v T' L X' hQ)
/-- a call of a constructor, by its contract -/
theorem Go.init (X : Stand p l e R s m args below meth c T locs cells slots) (hx : p.tables.exec = Jvm.exec) (hZ : Z.Warmed39 s.vm) {own : String} {index : Nat} {y : MethodName} (hy1 : y.name = "<init>") (hown : s.vm.findClass own = some m.cls) (wl : (Cond.methodLink own index y).before a0 Z = true)
    (wi : (Cond.instanceMethod y).before a0 Z = true) {bytes : ByteArray} {maxL : Nat} (wc : (Cond.code y bytes maxL none).before a0 Z = true) (wz : (Cond.initialized y.cls).before a0 Z = true) (hy : y.cls ≠ "java/lang/invoke/MethodHandle" ∧ y.cls ≠ "java/lang/invoke/VarHandle")
    {rm : Room} {Q : Option Value → Heap → List Loc → Prop} {b : Addr} {argsL rest : List Value} (P : Pays l y bytes maxL none rm Z (.ref b :: argsL).toArray h Q) (eT : T.heap = h) {pc : Nat} {Ls : Array Slot} {st : List Value} (hst : st = argsL.reverse ++ .ref b :: rest) (hsz : Ls.size = c.maxLocals) {ps : List FieldType} {r : Option FieldType} (hpd : parseMethodDescriptor y.desc = some ⟨ps, r⟩) (hlen : argsL.length = ps.length)
    (hd : decode c.code pc = .ok (.invokespecial index, 3)) (W : Nat) (hW : (rest.map fun v => v.category).sum ≤ W) (hf : rm.frames + 1 ≤ R.frames) (hl : W + (maxL + 11) + rm.locals ≤ R.locals) (hc : cells + rm.cells ≤ R.cells) (hs : slots + rm.slots ≤ R.slots)
    (k : ∀ (v : Option Value) (T' : State) (L : List Loc), Stand p l e R s m args below meth c T' (locs ++ L) (cells + rm.cells) (slots + rm.slots) → Q v T'.heap L → Go p e below G (T'.setTop (mkF m (pc + 3) Ls (v.toList ++ rest)))) : Go p e below G (T.setTop (mkF m pc Ls st)) := by
  obtain ⟨v, _, ⟨T', L', k', n'⟩, -, X', ⟨L, hQ, h1, h2, h3⟩, stp⟩ := X.specialBack hx hy1 hown (mvT hZ wl) (mvT hZ wi) (mvT hZ wc) hy (backOf (W := W) (P []) hZ wc wz hf hl) (g := mkF m pc Ls st) rfl hsz (Steps.refl _) (a := b) (argsL := argsL) (rest := rest) (lenOf hpd hlen) hst (by show 2 * 0 + _ ≤ _; omega) hd (fun _ _ => ⟨rfl, eT, hc, hs⟩)
  dsimp only at X' hQ h1 h2 h3 stp
  subst h1 h2 h3
  exact Go.tr stp (k v T' L X' hQ)
/-- a call of a static method, by its contract -/
theorem Go.stat (X : Stand p l e R s m args below meth c T locs cells slots) (hx : p.tables.exec = Jvm.exec) (hZ : Z.Warmed39 s.vm) {own : String} {index : Nat} {y : MethodName} (hown : s.vm.findClass own = some m.cls) (wl : (Cond.methodLink own index y).before a0 Z = true)
    (wst : (Cond.static y).before a0 Z = true) (wz : (Cond.initialized y.cls).before a0 Z = true) {bytes : ByteArray} {maxL : Nat} {ret : Option FieldType} (wc : (Cond.code y bytes maxL ret).before a0 Z = true) (hy : y.cls ≠ "java/lang/invoke/MethodHandle" ∧ y.cls ≠ "java/lang/invoke/VarHandle")
    {rm : Room} {Q : Option Value → Heap → List Loc → Prop} {argsL rest : List Value} (P : Pays l y bytes maxL ret rm Z argsL.toArray h Q) (eT : T.heap = h) {pc : Nat} {Ls : Array Slot} {st : List Value} (hst : st = argsL.reverse ++ rest) (hsz : Ls.size = c.maxLocals) {ps : List FieldType} {r : Option FieldType} (hpd : parseMethodDescriptor y.desc = some ⟨ps, r⟩) (hlen : argsL.length = ps.length)
    (hd : decode c.code pc = .ok (.invokestatic index, 3)) (W : Nat) (hW : (rest.map fun v => v.category).sum ≤ W) (hf : rm.frames + 1 ≤ R.frames) (hl : W + (maxL + 11) + rm.locals ≤ R.locals) (hc : cells + rm.cells ≤ R.cells) (hs : slots + rm.slots ≤ R.slots)
    (k : ∀ (v : Option Value) (T' : State) (L : List Loc), Stand p l e R s m args below meth c T' (locs ++ L) (cells + rm.cells) (slots + rm.slots) → Q v T'.heap L → Go p e below G (T'.setTop (mkF m (pc + 3) Ls (v.toList ++ rest)))) : Go p e below G (T.setTop (mkF m pc Ls st)) := by
  obtain ⟨mk, hnamed⟩ := Cond.named_of_code (mvT (args := args) hZ wc)
  obtain ⟨methM, cM, hmeth, hcode, -, -, -, -, -, hsig⟩ := Cond.code_spec hnamed (mvT (args := args) hZ wc)
  obtain ⟨v, _, ⟨T', L', k', n'⟩, -, X', ⟨L, hQ, h1, h2, h3⟩, stp⟩ := X.staticBack hx hown (mvT hZ wl) (mvT hZ wst) (mvT hZ wz) hnamed hmeth hsig hy (backOf (W := W) (P []) hZ wc wz hf hl) (g := mkF m pc Ls st) rfl hsz (Steps.refl _) (argsL := argsL) (rest := rest) (lenOf hpd hlen) hst (by show 2 * 0 + _ ≤ _; omega) hd (fun _ _ => ⟨rfl, eT, hc, hs⟩)
  dsimp only at X' hQ h1 h2 h3 stp
  subst h1 h2 h3
  exact Go.tr stp (k v T' L X' hQ)
theorem own_alen (X : Stand p l e R s m args below meth c T locs cells slots) (hx : p.tables.exec = Jvm.exec) (hZ : Z.Warmed39 s.vm) (eT : T.heap = h) {a : Addr} {cl : Cell} {ty : FieldType} (A : Arr Z h a cl ty) {z : Int32} (q : cl.slots.size.toInt32 = z) {pc : Nat} {Ls : Array Slot} {st rest : List Value} (hst : st = .ref a :: rest)
    (hd : decode c.code pc = .ok (.arraylength, 1)) (target : State) (k : Steps p.tables e below (T.setTop (mkF m (pc + 1) Ls (.int z :: rest))) target) : Steps p.tables e below (T.setTop (mkF m pc Ls st)) target :=
  X.arraylength hx (by rw [eT]; exact A.1) (State.isArrayOf_alike hZ.alike A.2.1) (g := mkF m pc Ls st) rfl hst hd target (by rw [q]; exact k)
def ObjAt (h : Heap) (x : Addr) : Prop := ∃ cell : Cell, h[x]? = some cell ∧ cell.vm.isStatics = false
theorem own_obj_exa {x : Addr} {C : String} (F : Exa Z h x C) : ObjAt h x := by
  obtain ⟨c1, _, h1, _, _, h4, _⟩ := F
  exact ⟨c1, h1, h4⟩
theorem own_obj_arv {x : Addr} {k : ClassId} {ty : FieldType} {n : Int32} {vs : List Value} {d : Value} (F : Arv Z h x k ty n vs d) : ObjAt h x := by
  obtain ⟨c1, A, _⟩ := F
  exact ⟨c1, A.1, A.plain⟩
theorem own_sta_keep {h' : Heap} {C n d : String} {v : Value} {ws : List Addr} (F : Sta Z h C n d v) (K : Keep h h' ws) (hws : ∀ x ∈ ws, ObjAt h x) : Sta Z h' C n d v := by
  obtain ⟨cf, i, k, f, st, cell, h1, h2, h3, h4, h5, h6, h7⟩ := F
  refine ⟨cf, i, k, f, st, cell, h1, h2, h3, h4, K.2.1 _ _ h5 fun q => ?_, h6, h7⟩
  obtain ⟨c1, g1, g2⟩ := hws _ q
  cases h5.symm.trans g1
  rw [h6] at g2
  cases g2
theorem own_entry {n : Nat} {Ls : Array Slot} (h : Jvm.Sym.laidSlots args.toList ++ List.replicate (n - (Jvm.Sym.laidSlots args.toList).length) .unset = Ls.toList) : entryFrame m args n = mkF m 0 Ls [] := by
  have q : argsToLocals args n = Ls := Array.toList_inj.mp (by rw [Jvm.Sym.argsToLocals_toList]; exact h)
  unfold entryFrame
  rw [q]
theorem own_eqI {first : State} {o : Option Outcome} {idx : List Nat} {a b : Term} {x y : Int32} (ha : a.eval args first o idx s = some (.int x)) (hb : b.eval args first o idx s = some (.int y)) : (Jvm.Cond.eq a b).value args first o s idx = some (decide (x = y)) := by simp [Cond.value, ha, hb]
theorem own_nar_ref {t : FieldType} {v : Value} (hv : v.isRef = true) : narrow t v = v := by
  rcases ref_cases hv with rfl | ⟨a, rfl⟩ <;> cases t <;> rfl
theorem own_fit_ref {t : FieldType} {v : Value} (hv : v.isRef = true) (ht : t.isReference = true := by rfl) : fits t v = true := by
  rcases ref_cases hv with rfl | ⟨a, rfl⟩ <;> cases t <;> first | rfl | cases ht
theorem own_cat_r (a : Addr) : (Value.ref a).category = 1 := rfl
theorem own_cat_i (a : Int32) : (Value.int a).category = 1 := rfl
theorem own_cat_n : Value.null.category = 1 := rfl
theorem own_cat_j (a : Int64) : (Value.long a).category = 2 := rfl
theorem own_cat_d (a : UInt64) : (Value.double a).category = 2 := rfl
end OwnGo
/-! own kit, the wide mode: a body that may load String constants; the constants of EL are held (CHv) -/
section OwnWide
variable {p : Program} {l : Launch} {e : Env} {R : Room} {s : State} {m : MethodId} {args : Array Value} {below : List Frame} {meth : Method} {c : Code} {T : State} {locs : List Loc} {cells slots : Nat} {Z : State} {a0 : Array Value} {h h0 : Heap} {G : Outcome → State → Prop} {S S' : State} {EL : List (String × Nat)} {vm0 : Vm} {k0 : Nat}
def LeftW (Z : State) (EL : List (String × Nat)) (s : State) (h0 : Heap) (K N : Nat) (Q : Option Value → Heap → List Loc → Prop) : Outcome → State → Prop :=
  fun o t => ∃ v L, o = .returned v ∧ Q v t.heap L ∧ CHr Z EL s.vm h0 t.vm t.heap ∧ ReturnedEndW s o t L K N
def PaysW (l : Launch) (y : MethodName) (bytes : ByteArray) (maxL : Nat) (ret : Option FieldType) (rm : Room) (Z : State) (EL : List (String × Nat)) (as' : Array Value) (h0 : Heap) (Q : Option Value → Heap → List Loc → Prop) : Prop :=
  ∀ ws, MetFree l y (head1 (Cond.code y bytes maxL ret :: ws) rm) (fun a U => a = as' ∧ Z.Warmed39 U.vm ∧ U.heap = h0 ∧ CHv Z EL U.vm h0) (fun _ _ _ _ _ => True) (fun _ U o U' => ∃ v L, o = .returned v ∧ Q v U'.heap L ∧ CHr Z EL U.vm U.heap U'.vm U'.heap ∧ ReturnedEndW U o U' L rm.cells rm.slots)
theorem PaysW.of {y : MethodName} {bytes : ByteArray} {maxL : Nat} {ret : Option FieldType} {rm : Room} {as' : Array Value} {Q : Option Value → Heap → List Loc → Prop} (hx : plainFor y = true)
    (body : ∀ (p : Program) (e : Env) (s : State) (m : MethodId) (below : List Frame) (meth : Method) (c : Code) (T : State), p.tables.exec = Jvm.exec → c.code = bytes → c.maxLocals = maxL → meth.sig.returnType = ret → meth.locks = false → Z.Warmed39 s.vm → s.vm.findClass y.cls = some m.cls → meth.name = y.name →
      T.heap = h0 → Stand p l e rm (s.setVm s.vm) m as' below meth c T [] 0 0 → CHr Z EL s.vm h0 s.vm h0 → s.Since s.vm 0 → Go p e below (LeftW Z EL s h0 rm.cells rm.slots Q) (T.setTop (entryFrame m as' maxL))) : PaysW l y bytes maxL ret rm Z EL as' h0 Q := by
  intro ws
  refine MetFree.of_bodySF hx hisR ?_
  intro p e s m args below meth c s₁ Bd hml0 hP hK
  obtain ⟨rfl, hZ, hh, hH⟩ := hP
  have k := body p e s m below meth c s₁ Bd.exec Bd.bytes hml0 Bd.returns Bd.notSynchronized hZ (findClass_of_methodNamed Bd.named) (name_of_methodNamed Bd.named Bd.method).1 (by rw [← hh, Bd.state]; rfl) (Stand.of_body Bd) (CHr.refl hH) ((State.WarmedH.refl s).since 0)
  obtain ⟨s₂, o, g1, g2, g3, v, L, q1, q2, q3, q4⟩ := k
  exact ⟨s₂, o, g1, g2, g3, v, L, q1, q2, hh ▸ q3, q4⟩
theorem Go.outW (X : Stand p l e R (s.setVm vm0) m args below meth c T locs cells slots) (hZ : Z.Warmed39 vm0) (hEL : EW Z a0 EL) (eT : T.heap = h) (hC : CHr Z EL s.vm h0 vm0 h) (hS : s.Since vm0 k0) (hk : k0 ≤ h.size) {v : Option Value} {K N : Nat} {Q : Option Value → Heap → List Loc → Prop} (hlocks : meth.locks = false) (hv : meth.sig.returnType = none → v = none) (hK : cells ≤ K) (hN : slots ≤ N) (hQ : Q v T.heap locs)
    (st : ∀ fs, (∀ (f : JFrame) (acts : List Action), f.method = m → f.locked = none → f.entered = [] → (doReturn e (T.setTop f) acts v).1 = T.setFrames fs) → Steps p.tables e below S (T.setFrames fs)) : Go p e below (LeftW Z EL s h0 K N Q) S := by
  subst eT
  obtain ⟨fs, hr, hrun, hended, hq⟩ := X.leaveW hS hk hv hlocks
  exact ⟨_, _, st fs hr, hrun, hended, v, locs, rfl, hQ, (show CHr Z EL s.vm h0 T.vm T.heap from hC.trans (CHv.at X hZ hEL hC.1)), hq.1, hq.2.1, hq.2.2.1, hq.2.2.2.mono hK hN⟩
theorem retw_b (X : Stand p l e R (s.setVm vm0) m args below meth c T locs cells slots) (hZ : Z.Warmed39 vm0) (hEL : EW Z a0 EL) (eT : T.heap = h) (hC : CHr Z EL s.vm h0 vm0 h) (hS : s.Since vm0 k0) (hk : k0 ≤ h.size) (hx : p.tables.exec = Jvm.exec) (hlocks : meth.locks = false) (hret : meth.sig.returnType = some .boolean) {pc : Nat} {Ls : Array Slot} {z : Int32} {rest : List Value} {K N : Nat} {Q : Option Value → Heap → List Loc → Prop} (hd : decode c.code pc = .ok (.ireturn, 1)) (hK : cells ≤ K) (hN : slots ≤ N)
    (hQ : Q (some (.int (z &&& 1))) T.heap locs) : Go p e below (LeftW Z EL s h0 K N Q) (T.setTop (mkF m pc Ls (.int z :: rest))) :=
  Go.outW X hZ hEL eT hC hS hk (v := some (.int (z &&& 1))) hlocks (fun h => by rw [hret] at h; cases h) hK hN hQ fun fs hr => retN X hx (t := .boolean) hret (by simp) hd hr
theorem retw_i (X : Stand p l e R (s.setVm vm0) m args below meth c T locs cells slots) (hZ : Z.Warmed39 vm0) (hEL : EW Z a0 EL) (eT : T.heap = h) (hC : CHr Z EL s.vm h0 vm0 h) (hS : s.Since vm0 k0) (hk : k0 ≤ h.size) (hx : p.tables.exec = Jvm.exec) (hlocks : meth.locks = false) (hret : meth.sig.returnType = some .int) {pc : Nat} {Ls : Array Slot} {z : Int32} {rest : List Value} {K N : Nat} {Q : Option Value → Heap → List Loc → Prop} (hd : decode c.code pc = .ok (.ireturn, 1)) (hK : cells ≤ K) (hN : slots ≤ N)
    (hQ : Q (some (.int z)) T.heap locs) : Go p e below (LeftW Z EL s h0 K N Q) (T.setTop (mkF m pc Ls (.int z :: rest))) :=
  Go.outW X hZ hEL eT hC hS hk (v := some (.int z)) hlocks (fun h => by rw [hret] at h; cases h) hK hN hQ fun fs hr => retOut X hx hret rfl (Or.inl ⟨rfl, Or.inl rfl, z, rfl⟩) hd hr
theorem retw_a (X : Stand p l e R (s.setVm vm0) m args below meth c T locs cells slots) (hZ : Z.Warmed39 vm0) (hEL : EW Z a0 EL) (eT : T.heap = h) (hC : CHr Z EL s.vm h0 vm0 h) (hS : s.Since vm0 k0) (hk : k0 ≤ h.size) (hx : p.tables.exec = Jvm.exec) (hlocks : meth.locks = false) {t : FieldType} (hret : meth.sig.returnType = some t) (ht : t.isReference = true) {pc : Nat} {Ls : Array Slot} {v : Value} (hv : v.isRef = true) {rest : List Value} {K N : Nat} {Q : Option Value → Heap → List Loc → Prop} (hd : decode c.code pc = .ok (.areturn, 1)) (hK : cells ≤ K) (hN : slots ≤ N)
    (hQ : Q (some v) T.heap locs) : Go p e below (LeftW Z EL s h0 K N Q) (T.setTop (mkF m pc Ls (v :: rest))) :=
  Go.outW X hZ hEL eT hC hS hk (v := some v) hlocks (fun h => by rw [hret] at h; cases h) hK hN hQ fun fs hr => retOut X hx hret (by rcases ref_cases hv with rfl | ⟨a, rfl⟩ <;> cases t <;> first | rfl | cases ht) (Or.inr (Or.inr (Or.inr (Or.inr ⟨rfl, ht, hv⟩)))) hd hr
theorem retw_v (X : Stand p l e R (s.setVm vm0) m args below meth c T locs cells slots) (hZ : Z.Warmed39 vm0) (hEL : EW Z a0 EL) (eT : T.heap = h) (hC : CHr Z EL s.vm h0 vm0 h) (hS : s.Since vm0 k0) (hk : k0 ≤ h.size) (hx : p.tables.exec = Jvm.exec) (hlocks : meth.locks = false) (hret : meth.sig.returnType = none) {pc : Nat} {Ls : Array Slot} {K N : Nat} {Q : Option Value → Heap → List Loc → Prop} (hd : decode c.code pc = .ok (.return_, 1)) (hK : cells ≤ K) (hN : slots ≤ N)
    (hQ : Q none T.heap locs) : Go p e below (LeftW Z EL s h0 K N Q) (T.setTop (mkF m pc Ls [])) :=
  Go.outW X hZ hEL eT hC hS hk (v := none) hlocks (fun _ => rfl) hK hN hQ fun fs hr => X.returnOut hx hret hd hr
theorem own_hown {own : String} {vm1 : Vm} (h : s.vm.findClass own = some m.cls) (hS : s.Since vm1 k0) : (s.setVm vm1).vm.findClass own = some m.cls := by
  rw [show (s.setVm vm1).vm.findClass own = vm1.findClass own from rfl, hS.1.alike.findClass]; exact h
theorem own_hZ {vm1 : Vm} (h : Z.Warmed39 s.vm) (hS : s.Since vm1 k0) : Z.Warmed39 (s.setVm vm1).vm := State.Warmed39.trans (t := s) h hS.1
/-- what stands behind a call of a body that may intern -/
theorem Go.initW (X : Stand p l e R (s.setVm vm0) m args below meth c T locs cells slots) (hx : p.tables.exec = Jvm.exec) (hZ : Z.Warmed39 (s.setVm vm0).vm) (hEL : EW Z a0 EL) (H : CHv Z EL vm0 h) (hS : s.Since vm0 k0) (hk : k0 ≤ h.size) {own : String} {index : Nat} {y : MethodName} (hy1 : y.name = "<init>") (hown : (s.setVm vm0).vm.findClass own = some m.cls) (wl : (Cond.methodLink own index y).before a0 Z = true)
    (wi : (Cond.instanceMethod y).before a0 Z = true) {bytes : ByteArray} {maxL : Nat} (wc : (Cond.code y bytes maxL none).before a0 Z = true) (wz : (Cond.initialized y.cls).before a0 Z = true) (hy : y.cls ≠ "java/lang/invoke/MethodHandle" ∧ y.cls ≠ "java/lang/invoke/VarHandle")
    {rm : Room} {Q : Option Value → Heap → List Loc → Prop} {b : Addr} {argsL rest : List Value} (P : PaysW l y bytes maxL none rm Z EL (.ref b :: argsL).toArray h Q) (eT : T.heap = h) {pc : Nat} {Ls : Array Slot} {st : List Value} (hst : st = argsL.reverse ++ .ref b :: rest) (hsz : Ls.size = c.maxLocals) {ps : List FieldType} {r : Option FieldType} (hpd : parseMethodDescriptor y.desc = some ⟨ps, r⟩) (hlen : argsL.length = ps.length)
    (hd : decode c.code pc = .ok (.invokespecial index, 3)) (W : Nat) (hW : (rest.map fun v => v.category).sum ≤ W) (hf : rm.frames + 1 ≤ R.frames) (hl : W + (maxL + 11) + rm.locals ≤ R.locals) (hc : cells + rm.cells ≤ R.cells) (hs : slots + rm.slots ≤ R.slots)
    (k : ∀ (v : Option Value) (T' : State) (L : List Loc), Stand p l e R (s.setVm T'.vm) m args below meth c T' (locs ++ L) (cells + rm.cells) (slots + rm.slots) → Q v T'.heap L → CHr Z EL vm0 h T'.vm T'.heap → s.Since T'.vm T'.heap.size → Go p e below G (T'.setTop (mkF m (pc + 3) Ls (v.toList ++ rest)))) : Go p e below G (T.setTop (mkF m pc Ls st)) := by
  obtain ⟨v, _, ⟨T', L', k', n'⟩, -, X', hS', hgr, ⟨L, hQ, h1, h2, h3, hC⟩, stp⟩ := X.specialBackS hx hy1 hown (mvT hZ wl) (mvT hZ wi) (mvT hZ wc) hy (backOfSH (s := s) (vm0 := vm0) (W := W) (P []) hZ wc wz hf hl hEL H) (g := mkF m pc Ls st) rfl hsz (Steps.refl _) (a := b) (argsL := argsL) (rest := rest) (lenOf hpd hlen) hst (by show 2 * 0 + _ ≤ _; omega) hd (fun _ _ => ⟨rfl, eT, hc, hs⟩)
  dsimp only at X' hQ h1 h2 h3 stp hC hS' hgr
  subst h1 h2 h3
  exact Go.tr stp (k v T' L X' hQ hC (hS.trans hS' (Nat.le_trans hk (eT ▸ hgr))))
theorem Go.statW (X : Stand p l e R (s.setVm vm0) m args below meth c T locs cells slots) (hx : p.tables.exec = Jvm.exec) (hZ : Z.Warmed39 (s.setVm vm0).vm) (hEL : EW Z a0 EL) (H : CHv Z EL vm0 h) (hS : s.Since vm0 k0) (hk : k0 ≤ h.size) {own : String} {index : Nat} {y : MethodName} (hown : (s.setVm vm0).vm.findClass own = some m.cls) (wl : (Cond.methodLink own index y).before a0 Z = true)
    (wst : (Cond.static y).before a0 Z = true) (wz : (Cond.initialized y.cls).before a0 Z = true) {bytes : ByteArray} {maxL : Nat} {ret : Option FieldType} (wc : (Cond.code y bytes maxL ret).before a0 Z = true) (hy : y.cls ≠ "java/lang/invoke/MethodHandle" ∧ y.cls ≠ "java/lang/invoke/VarHandle")
    {rm : Room} {Q : Option Value → Heap → List Loc → Prop} {argsL rest : List Value} (P : PaysW l y bytes maxL ret rm Z EL argsL.toArray h Q) (eT : T.heap = h) {pc : Nat} {Ls : Array Slot} {st : List Value} (hst : st = argsL.reverse ++ rest) (hsz : Ls.size = c.maxLocals) {ps : List FieldType} {r : Option FieldType} (hpd : parseMethodDescriptor y.desc = some ⟨ps, r⟩) (hlen : argsL.length = ps.length)
    (hd : decode c.code pc = .ok (.invokestatic index, 3)) (W : Nat) (hW : (rest.map fun v => v.category).sum ≤ W) (hf : rm.frames + 1 ≤ R.frames) (hl : W + (maxL + 11) + rm.locals ≤ R.locals) (hc : cells + rm.cells ≤ R.cells) (hs : slots + rm.slots ≤ R.slots)
    (k : ∀ (v : Option Value) (T' : State) (L : List Loc), Stand p l e R (s.setVm T'.vm) m args below meth c T' (locs ++ L) (cells + rm.cells) (slots + rm.slots) → Q v T'.heap L → CHr Z EL vm0 h T'.vm T'.heap → s.Since T'.vm T'.heap.size → Go p e below G (T'.setTop (mkF m (pc + 3) Ls (v.toList ++ rest)))) : Go p e below G (T.setTop (mkF m pc Ls st)) := by
  obtain ⟨mk, hnamed⟩ := Cond.named_of_code (mvT (args := args) hZ wc)
  obtain ⟨methM, cM, hmeth, hcode, -, -, -, -, -, hsig⟩ := Cond.code_spec hnamed (mvT (args := args) hZ wc)
  obtain ⟨v, _, ⟨T', L', k', n'⟩, -, X', hS', hgr, ⟨L, hQ, h1, h2, h3, hC⟩, stp⟩ := X.staticBackS hx hown (mvT hZ wl) (mvT hZ wst) (mvT hZ wz) hnamed hmeth hsig hy (backOfSH (s := s) (vm0 := vm0) (W := W) (P []) hZ wc wz hf hl hEL H) (g := mkF m pc Ls st) rfl hsz (Steps.refl _) (argsL := argsL) (rest := rest) (lenOf hpd hlen) hst (by show 2 * 0 + _ ≤ _; omega) hd (fun _ _ => ⟨rfl, eT, hc, hs⟩)
  dsimp only at X' hQ h1 h2 h3 stp hC hS' hgr
  subst h1 h2 h3
  exact Go.tr stp (k v T' L X' hQ hC (hS.trans hS' (Nat.le_trans hk (eT ▸ hgr))))
theorem own_safe_arv {x : Addr} {k : ClassId} {ty : FieldType} {n : Int32} {vs : List Value} {d : Value} (hal : Z.vm.Alike vm0) (F : Arv Z h x k ty n vs d) (ht : ty ≠ .byte) : Safe Z EL vm0 h x := by
  obtain ⟨cl, A, _⟩ := F
  exact Safe.arr hal A ht
/-- a String whose value is still null is no held constant -/
theorem own_safe_null {a : Addr} {vm1 : Vm} (hal : Z.vm.Alike vm1) (E : Exa Z h a "java/lang/String") (F : Fld Z h a "java/lang/String" "value" "[B" .null) : Safe Z EL vm1 h a := fun B => by
  obtain ⟨q0, -, u, a1, -, q, -, hSl, hy⟩ := B
  obtain ⟨cS, ⟨⟨s1, s2, s3, ⟨cv, kv, iv, s4, s4'⟩, ⟨cc, kc, ic, s5, s5'⟩, s6, s7, s8, s9, s10, s11, s12, s13, s14, s15, s16⟩, hfS, hcS⟩, ⟨kS, k1, k2, k3⟩, hB, hbyt⟩ := hSl
  rcases hy with rfl | rfl
  · obtain ⟨cell, cf, k, i, f, f1, f2, f3, f4, f5, f6, f7⟩ := F
    obtain ⟨kv', z4⟩ := ff_back (U := Wst Z vm1 h) hal s4
    cases f2.symm.trans z4
    have s1 : h[q.sa]? = some q.sC := s1
    cases f1.symm.trans s1
    rw [f7] at s8
    cases s8
  · obtain ⟨cell, k, f1, f2, -⟩ := E
    have s10 : h[q.sd]? = some q.SA := s10
    cases f1.symm.trans s10
    have hB : vm1.findClass "[B" = some q.SA.cls := hB
    rw [hal.findClass] at hB
    exact ids_ne f2 hB (by decide) rfl
end OwnWide
def own_EL : List (String × Nat) := [("java/lang/String", 7)]
theorem own_ew {Z : State} {a0 : Array Value} (hw : ∀ d ∈ tables_1, d.before a0 Z = true) : EW Z a0 own_EL := (EW.cons (hw _ (List.mem_of_getElem? (i := 84) rfl)) (by decide) EW.nil)
theorem own_ws {Z : State} {a0 : Array Value} (hw : ∀ d ∈ tables_1, d.before a0 Z = true) : ∀ a ∈ Bundle.stringAtoms, a.before a0 Z = true := by
  intro a ha
  simp only [Bundle.stringAtoms, Bundle.sN, List.mem_cons, List.not_mem_nil, or_false] at ha
  rcases ha with rfl | rfl | rfl | rfl | rfl | rfl | rfl
  · exact (hw _ (List.mem_of_getElem? (i := 49) rfl))
  · exact (hw _ (List.mem_of_getElem? (i := 48) rfl))
  · exact (hw _ (List.mem_of_getElem? (i := 64) rfl))
  · exact (hw _ (List.mem_of_getElem? (i := 74) rfl))
  · exact (hw _ (List.mem_of_getElem? (i := 72) rfl))
  · exact (hw _ (List.mem_of_getElem? (i := 85) rfl))
  · exact (hw _ (List.mem_of_getElem? (i := 86) rfl))
def StrAt (Z : State) (h : Heap) (a : Addr) (n : Int32) (bs : List Value) : Prop := ∃ d k, Exa Z h a "java/lang/String" ∧ Fld Z h a "java/lang/String" "value" "[B" (.ref d) ∧ Fld Z h a "java/lang/String" "coder" "B" (.int (0 : Int32)) ∧ Arv Z h d k .byte n bs (.int (0 : Int32))
/-- a value that is null or a String of up to two signs -/
def StrIs (Z : State) (h : Heap) (u : Value) (o : Option (List Int32)) : Prop := (u = .null ∧ o = none) ∨ ∃ a, u = .ref a ∧ ((o = some [] ∧ StrAt Z h a (0 : Int32) []) ∨ (∃ b0, o = some [b0] ∧ StrAt Z h a (1 : Int32) [.int b0]) ∨ (∃ b0 b1, o = some [b0, b1] ∧ StrAt Z h a (2 : Int32) [.int b0, .int b1]))
def NoStr (Z : State) (h : Heap) (x : Addr) : Prop := (∀ a, Exa Z h a "java/lang/String" → a ≠ x) ∧ ∀ d k ty n vs dv, Arv Z h d k ty n vs dv → d ≠ x
theorem own_nostr {Z : State} {h : Heap} {a0 : Array Value} {x : Addr} {C : String} {n : Nat} (E : Exa Z h x C) (hC : C ≠ "java/lang/String") (w : (Cond.instantiable C n).before a0 Z = true) : NoStr Z h x := ⟨fun _ F => Ne.symm (ne_exa E F hC), fun _ _ _ _ _ _ A => Ne.symm (Exa.neArv E A w)⟩
theorem StrAt.ext {Z : State} {h h' : Heap} {a : Addr} {n : Int32} {bs : List Value} (F : StrAt Z h a n bs) (E : Ext h h') : StrAt Z h' a n bs := by
  obtain ⟨d, k, h1, h2, h3, h4⟩ := F
  exact ⟨d, k, h1.ext E, h2.ext E, h3.ext E, h4.ext E⟩
theorem StrAt.keep {Z : State} {h h' : Heap} {a : Addr} {n : Int32} {bs : List Value} {ws : List Addr} (F : StrAt Z h a n bs) (K : Keep h h' ws) (al : ∀ x ∈ ws, NoStr Z h x) : StrAt Z h' a n bs := by
  obtain ⟨d, k, h1, h2, h3, h4⟩ := F
  have q1 : a ∉ ws := fun q => (al _ q).1 _ h1 rfl
  have q2 : d ∉ ws := fun q => (al _ q).2 _ _ _ _ _ _ h4 rfl
  exact ⟨d, k, h1.keep K, h2.keep K q1, h3.keep K q1, h4.keep K q2⟩
theorem StrIs.ext {Z : State} {h h' : Heap} {u : Value} {o : Option (List Int32)} (F : StrIs Z h u o) (E : Ext h h') : StrIs Z h' u o := by
  rcases F with F | ⟨a, e, ⟨q, F⟩ | ⟨b0, q, F⟩ | ⟨b0, b1, q, F⟩⟩
  · exact Or.inl F
  · exact Or.inr ⟨a, e, Or.inl ⟨q, F.ext E⟩⟩
  · exact Or.inr ⟨a, e, Or.inr (Or.inl ⟨b0, q, F.ext E⟩)⟩
  · exact Or.inr ⟨a, e, Or.inr (Or.inr ⟨b0, b1, q, F.ext E⟩)⟩
theorem StrIs.keep {Z : State} {h h' : Heap} {u : Value} {o : Option (List Int32)} {ws : List Addr} (F : StrIs Z h u o) (K : Keep h h' ws) (al : ∀ x ∈ ws, NoStr Z h x) : StrIs Z h' u o := by
  rcases F with F | ⟨a, e, ⟨q, F⟩ | ⟨b0, q, F⟩ | ⟨b0, b1, q, F⟩⟩
  · exact Or.inl F
  · exact Or.inr ⟨a, e, Or.inl ⟨q, F.keep K al⟩⟩
  · exact Or.inr ⟨a, e, Or.inr (Or.inl ⟨b0, q, F.keep K al⟩)⟩
  · exact Or.inr ⟨a, e, Or.inr (Or.inr ⟨b0, b1, q, F.keep K al⟩)⟩
theorem StrIs.exa {Z : State} {h : Heap} {a : Addr} {o : Option (List Int32)} (F : StrIs Z h (.ref a) o) : Exa Z h a "java/lang/String" := by
  rcases F with ⟨e, -⟩ | ⟨a', e, ⟨q, F⟩ | ⟨b0, q, F⟩ | ⟨b0, b1, q, F⟩⟩
  · cases e
  all_goals (cases e; obtain ⟨d, k, h1, -⟩ := F; exact h1)
theorem StrIs.isRef {Z : State} {h : Heap} {u : Value} {o : Option (List Int32)} (F : StrIs Z h u o) : u.isRef = true := by
  rcases F with ⟨e, -⟩ | ⟨a', e, -⟩ <;> subst e <;> rfl
theorem StrIs.sep {Z : State} {h : Heap} {u w : Value} {o : Option (List Int32)} (F : StrIs Z h u o) (q : ∀ a, w = .ref a → h.size ≤ a) : ∀ a, u = .ref a → w ≠ .ref a := by
  intro a e e'
  subst e
  exact absurd F.exa.lt (Nat.not_lt.mpr (q a e'))
theorem own_r01 {r : Int32} {c : Prop} [Decidable c] (hr : r = if c then 1 else 0) (h : ¬ r = 0) : r = 1 := by
  subst hr
  by_cases q : c
  · exact if_pos q
  · exact absurd (if_neg q) h
theorem dEQ0_n_0 : decode jdk_42_method_66_code 0 = .ok (.aload_n 0, 1) := by decide +kernel
theorem dEQ0_n_1 : decode jdk_42_method_66_code 1 = .ok (.aload_n 1, 1) := by decide +kernel
theorem dEQ0_n_2 : decode jdk_42_method_66_code 2 = .ok (.if_acmp .ne 5, 3) := by decide +kernel
theorem dEQ0_n_7 : decode jdk_42_method_66_code 7 = .ok (.aload_n 1, 1) := by decide +kernel
theorem dEQ0_n_8 : decode jdk_42_method_66_code 8 = .ok (.instanceof 10, 3) := by decide +kernel
theorem dEQ0_n_11 : decode jdk_42_method_66_code 11 = .ok (.ifCond .eq 43, 3) := by decide +kernel
theorem dEQ0_n_54 : decode jdk_42_method_66_code 54 = .ok (.iconst 0, 1) := by decide +kernel
theorem dEQ0_n_55 : decode jdk_42_method_66_code 55 = .ok (.ireturn, 1) := by decide +kernel
theorem pn_java_lang_String : plainName "java/lang/String" = true := by first | (simp [plainName, overriddenIn]; done) | decide +kernel
theorem ef_rmEQ0_n (m : MethodId) (a : Addr) : entryFrame m #[(.ref a), .null] 3 = mkF m 0 #[.val (.ref a), .val .null, .unset] [] := by first | exact own_entry rfl | (simp [entryFrame, mkF, argsToLocals, Value.category]; done) | rfl
set_option maxRecDepth 65536 in
set_option maxHeartbeats 40000000 in
theorem rmEQ0_n (l : Launch) (Z : State) (a0 : Array Value) (hw : ∀ d ∈ tables_1, d.before a0 Z = true) (a d : Addr) (kd : ClassId) (r : Int32) (h0 : Heap) (n0 : Nat) (Z0 : n0 ≤ h0.size) (E1 : Exa Z h0 a "java/lang/String") (F1 : Fld Z h0 a "java/lang/String" "value" "[B" (.ref d)) (G1 : Fld Z h0 a "java/lang/String" "coder" "B" (.int (0 : Int32))) (V1 : Arv Z h0 d kd .byte (0 : Int32) [] (.int (0 : Int32))) (cs : Int32) (S_cs : Sta Z h0 "java/lang/String" "COMPACT_STRINGS" "Z" (.int cs)) (hcs : ¬ cs = 0) (hr : r = if (some [] : Option (List Int32)) = none then 1 else 0) :
    Pays l (⟨"java/lang/String", "equals", "(Ljava/lang/Object;)Z"⟩ : MethodName) jdk_42_method_66_code 3 (some .boolean) ({ frames := 1, cells := 0, slots := 0, locals := 14 } : Room) Z #[(.ref a), .null] h0 (fun v h L => v = some (.int r) ∧ Fr n0 L ∧ h = h0) := by
  refine Pays.of (plainFor_of_name pn_java_lang_String) ?_
  intro pP eE sS m below methM cC T hx hby hml hret hlk hZ hown hnm eT X
  replace hown : sS.vm.findClass "java/lang/String" = some m.cls := hown
  have N0 := Fr.nil n0
  refine Go.cast (ef_rmEQ0_n m a) ?_
  refine Go.st (S' := T.setTop (mkF m 1 #[.val (.ref a), .val .null, .unset] [(.ref a)])) (fun t kt => XS.aloadN X.here hx rfl (hb hby dEQ0_n_0) rfl rfl kt) ?_
  refine Go.st (S' := T.setTop (mkF m 2 #[.val (.ref a), .val .null, .unset] [.null, (.ref a)])) (fun t kt => XS.aloadN X.here hx rfl (hb hby dEQ0_n_1) rfl rfl kt) ?_
  refine Go.st (S' := T.setTop (mkF m 7 #[.val (.ref a), .val .null, .unset] [])) (fun t kt => XT.acmpYes X.here hx rfl (pc0 := 2) (pc' := 7) rfl (hb hby dEQ0_n_2) rfl rfl rfl (XT.aa_ne_t (by simp)) (by decide) (by decide) kt) ?_
  refine Go.st (S' := T.setTop (mkF m 8 #[.val (.ref a), .val .null, .unset] [.null])) (fun t kt => XS.aloadN X.here hx rfl (hb hby dEQ0_n_7) rfl rfl kt) ?_
  refine Go.st (S' := T.setTop (mkF m 11 #[.val (.ref a), .val .null, .unset] [(.int (0 : Int32))])) (fun t kt => X.instanceofNull hx (g := (mkF m 8 #[.val (.ref a), .val .null, .unset] [.null])) rfl rfl (hb hby dEQ0_n_8) t kt) ?_
  refine Go.st (S' := T.setTop (mkF m 54 #[.val (.ref a), .val .null, .unset] [])) (fun t kt => XS.ifYes X.here hx rfl (pc0 := 11) (pc' := 54) rfl (hb hby dEQ0_n_11) rfl (XT.i0_eq_t (by decide)) (by decide) (by decide) kt) ?_
  refine Go.st (S' := T.setTop (mkF m 55 #[.val (.ref a), .val .null, .unset] [(.int (0 : Int32))])) (fun t kt => XS.iconst X.here hx rfl (hb hby dEQ0_n_54) kt) ?_
  exact ret_b X hx hlk hret (hb hby dEQ0_n_55) (by decide) (by decide) (⟨by rw [hr]; rfl, N0, eT⟩)
theorem dLE0_0_0 : decode jdk_43_method_13_code 0 = .ok (.aload_n 0, 1) := by decide +kernel
theorem dLE0_0_1 : decode jdk_43_method_13_code 1 = .ok (.arraylength, 1) := by decide +kernel
theorem dLE0_0_2 : decode jdk_43_method_13_code 2 = .ok (.aload_n 1, 1) := by decide +kernel
theorem dLE0_0_3 : decode jdk_43_method_13_code 3 = .ok (.arraylength, 1) := by decide +kernel
theorem dLE0_0_4 : decode jdk_43_method_13_code 4 = .ok (.if_icmp .ne 30, 3) := by decide +kernel
theorem dLE0_0_7 : decode jdk_43_method_13_code 7 = .ok (.iconst 0, 1) := by decide +kernel
theorem dLE0_0_8 : decode jdk_43_method_13_code 8 = .ok (.istore_n 2, 1) := by decide +kernel
theorem dLE0_0_9 : decode jdk_43_method_13_code 9 = .ok (.iload_n 2, 1) := by decide +kernel
theorem dLE0_0_10 : decode jdk_43_method_13_code 10 = .ok (.aload_n 0, 1) := by decide +kernel
theorem dLE0_0_11 : decode jdk_43_method_13_code 11 = .ok (.arraylength, 1) := by decide +kernel
theorem dLE0_0_12 : decode jdk_43_method_13_code 12 = .ok (.if_icmp .ge 20, 3) := by decide +kernel
theorem dLE0_0_32 : decode jdk_43_method_13_code 32 = .ok (.iconst 1, 1) := by decide +kernel
theorem dLE0_0_33 : decode jdk_43_method_13_code 33 = .ok (.ireturn, 1) := by decide +kernel
theorem pn_java_lang_StringLatin1 : plainName "java/lang/StringLatin1" = true := by first | (simp [plainName, overriddenIn]; done) | decide +kernel
theorem ef_rmLE0_0 (m : MethodId) (d : Addr) (g : Addr) : entryFrame m #[(.ref d), (.ref g)] 3 = mkF m 0 #[.val (.ref d), .val (.ref g), .unset] [] := by first | exact own_entry rfl | (simp [entryFrame, mkF, argsToLocals, Value.category]; done) | rfl
set_option maxRecDepth 65536 in
set_option maxHeartbeats 40000000 in
theorem rmLE0_0 (l : Launch) (Z : State) (a0 : Array Value) (hw : ∀ d ∈ tables_1, d.before a0 Z = true) (d g : Addr) (kd kg : ClassId) (r : Int32) (h0 : Heap) (n0 : Nat) (Z0 : n0 ≤ h0.size) (V_d : Arv Z h0 d kd .byte (0 : Int32) [] (.int (0 : Int32))) (V_g : Arv Z h0 g kg .byte (0 : Int32) [] (.int (0 : Int32))) (hr : r = if (some [] : Option (List Int32)) = some [] then 1 else 0) :
    Pays l (⟨"java/lang/StringLatin1", "equals", "([B[B)Z"⟩ : MethodName) jdk_43_method_13_code 3 (some .boolean) ({ frames := 0, cells := 0, slots := 0, locals := 0 } : Room) Z #[(.ref d), (.ref g)] h0 (fun v h L => v = some (.int r) ∧ Fr n0 L ∧ h = h0) := by
  refine Pays.of (plainFor_of_name pn_java_lang_StringLatin1) ?_
  intro pP eE sS m below methM cC T hx hby hml hret hlk hZ hown hnm eT X
  replace hown : sS.vm.findClass "java/lang/StringLatin1" = some m.cls := hown
  have N0 := Fr.nil n0
  refine Go.cast (ef_rmLE0_0 m d g) ?_
  refine Go.st (S' := T.setTop (mkF m 1 #[.val (.ref d), .val (.ref g), .unset] [(.ref d)])) (fun t kt => XS.aloadN X.here hx rfl (hb hby dLE0_0_0) rfl rfl kt) ?_
  obtain ⟨cl1, Ar1, q1, S1, M1, H1, G1⟩ := id V_d
  refine Go.st (S' := T.setTop (mkF m 2 #[.val (.ref d), .val (.ref g), .unset] [(.int (0 : Int32))])) (fun t kt => own_alen X hx hZ eT Ar1 (len_of S1 M1) rfl (hb hby dLE0_0_1) t kt) ?_
  refine Go.st (S' := T.setTop (mkF m 3 #[.val (.ref d), .val (.ref g), .unset] [(.ref g), (.int (0 : Int32))])) (fun t kt => XS.aloadN X.here hx rfl (hb hby dLE0_0_2) rfl rfl kt) ?_
  obtain ⟨cl2, Ar2, q2, S2, M2, H2, G2⟩ := id V_g
  refine Go.st (S' := T.setTop (mkF m 4 #[.val (.ref d), .val (.ref g), .unset] [(.int (0 : Int32)), (.int (0 : Int32))])) (fun t kt => own_alen X hx hZ eT Ar2 (len_of S2 M2) rfl (hb hby dLE0_0_3) t kt) ?_
  refine Go.st (S' := T.setTop (mkF m 7 #[.val (.ref d), .val (.ref g), .unset] [])) (fun t kt => XS.icmpNo X.here hx rfl (hb hby dLE0_0_4) rfl (XT.ii_ne_f (by decide)) kt) ?_
  refine Go.st (S' := T.setTop (mkF m 8 #[.val (.ref d), .val (.ref g), .unset] [(.int (0 : Int32))])) (fun t kt => XS.iconst X.here hx rfl (hb hby dLE0_0_7) kt) ?_
  refine Go.st (S' := T.setTop (mkF m 9 #[.val (.ref d), .val (.ref g), .val (.int (0 : Int32))] [])) (fun t kt => XS.istoreN X.here hx rfl (hb hby dLE0_0_8) rfl rfl kt) ?_
  refine Go.st (S' := T.setTop (mkF m 10 #[.val (.ref d), .val (.ref g), .val (.int (0 : Int32))] [(.int (0 : Int32))])) (fun t kt => XS.iloadN X.here hx rfl (hb hby dLE0_0_9) rfl kt) ?_
  refine Go.st (S' := T.setTop (mkF m 11 #[.val (.ref d), .val (.ref g), .val (.int (0 : Int32))] [(.ref d), (.int (0 : Int32))])) (fun t kt => XS.aloadN X.here hx rfl (hb hby dLE0_0_10) rfl rfl kt) ?_
  obtain ⟨cl3, Ar3, q3, S3, M3, H3, G3⟩ := id V_d
  refine Go.st (S' := T.setTop (mkF m 12 #[.val (.ref d), .val (.ref g), .val (.int (0 : Int32))] [(.int (0 : Int32)), (.int (0 : Int32))])) (fun t kt => own_alen X hx hZ eT Ar3 (len_of S3 M3) rfl (hb hby dLE0_0_11) t kt) ?_
  refine Go.st (S' := T.setTop (mkF m 32 #[.val (.ref d), .val (.ref g), .val (.int (0 : Int32))] [])) (fun t kt => XS.icmpYes X.here hx rfl (pc0 := 12) (pc' := 32) rfl (hb hby dLE0_0_12) rfl (XT.ii_ge_t (by decide)) (by decide) (by decide) kt) ?_
  refine Go.st (S' := T.setTop (mkF m 33 #[.val (.ref d), .val (.ref g), .val (.int (0 : Int32))] [(.int (1 : Int32))])) (fun t kt => XS.iconst X.here hx rfl (hb hby dLE0_0_32) kt) ?_
  exact ret_b X hx hlk hret (hb hby dLE0_0_33) (by decide) (by decide) (⟨by show some (Value.int (1 : Int32)) = some (.int r); rw [hr]; simp, N0, eT⟩)
theorem dEQ0_0_0 : decode jdk_42_method_66_code 0 = .ok (.aload_n 0, 1) := by decide +kernel
theorem dEQ0_0_1 : decode jdk_42_method_66_code 1 = .ok (.aload_n 1, 1) := by decide +kernel
theorem dEQ0_0_2 : decode jdk_42_method_66_code 2 = .ok (.if_acmp .ne 5, 3) := by decide +kernel
theorem dEQ0_0_7 : decode jdk_42_method_66_code 7 = .ok (.aload_n 1, 1) := by decide +kernel
theorem dEQ0_0_8 : decode jdk_42_method_66_code 8 = .ok (.instanceof 10, 3) := by decide +kernel
theorem dEQ0_0_11 : decode jdk_42_method_66_code 11 = .ok (.ifCond .eq 43, 3) := by decide +kernel
theorem dEQ0_0_14 : decode jdk_42_method_66_code 14 = .ok (.aload_n 1, 1) := by decide +kernel
theorem dEQ0_0_15 : decode jdk_42_method_66_code 15 = .ok (.checkcast 10, 3) := by decide +kernel
theorem dEQ0_0_18 : decode jdk_42_method_66_code 18 = .ok (.astore_n 2, 1) := by decide +kernel
theorem dEQ0_0_19 : decode jdk_42_method_66_code 19 = .ok (.getstatic 38, 3) := by decide +kernel
theorem dEQ0_0_22 : decode jdk_42_method_66_code 22 = .ok (.ifCond .eq 14, 3) := by decide +kernel
theorem dEQ0_0_25 : decode jdk_42_method_66_code 25 = .ok (.aload_n 0, 1) := by decide +kernel
theorem dEQ0_0_26 : decode jdk_42_method_66_code 26 = .ok (.getfield 15, 3) := by decide +kernel
theorem dEQ0_0_29 : decode jdk_42_method_66_code 29 = .ok (.aload_n 2, 1) := by decide +kernel
theorem dEQ0_0_30 : decode jdk_42_method_66_code 30 = .ok (.getfield 15, 3) := by decide +kernel
theorem dEQ0_0_33 : decode jdk_42_method_66_code 33 = .ok (.if_icmp .ne 21, 3) := by decide +kernel
theorem dEQ0_0_36 : decode jdk_42_method_66_code 36 = .ok (.aload_n 0, 1) := by decide +kernel
theorem dEQ0_0_37 : decode jdk_42_method_66_code 37 = .ok (.getfield 9, 3) := by decide +kernel
theorem dEQ0_0_40 : decode jdk_42_method_66_code 40 = .ok (.aload_n 2, 1) := by decide +kernel
theorem dEQ0_0_41 : decode jdk_42_method_66_code 41 = .ok (.getfield 9, 3) := by decide +kernel
theorem dEQ0_0_44 : decode jdk_42_method_66_code 44 = .ok (.invokestatic 541, 3) := by decide +kernel
theorem dEQ0_0_47 : decode jdk_42_method_66_code 47 = .ok (.ifCond .eq 7, 3) := by decide +kernel
theorem dEQ0_0_50 : decode jdk_42_method_66_code 50 = .ok (.iconst 1, 1) := by decide +kernel
theorem dEQ0_0_51 : decode jdk_42_method_66_code 51 = .ok (.goto 4, 3) := by decide +kernel
theorem dEQ0_0_54 : decode jdk_42_method_66_code 54 = .ok (.iconst 0, 1) := by decide +kernel
theorem dEQ0_0_55 : decode jdk_42_method_66_code 55 = .ok (.ireturn, 1) := by decide +kernel
theorem pd___B_B_Z : parseMethodDescriptor "([B[B)Z" = some ⟨[(.array .byte), (.array .byte)], some .boolean⟩ := by decide +kernel
theorem ef_rmEQ0_0 (m : MethodId) (a : Addr) (b : Addr) : entryFrame m #[(.ref a), (.ref b)] 3 = mkF m 0 #[.val (.ref a), .val (.ref b), .unset] [] := by first | exact own_entry rfl | (simp [entryFrame, mkF, argsToLocals, Value.category]; done) | rfl
set_option maxRecDepth 65536 in
set_option maxHeartbeats 40000000 in
theorem rmEQ0_0 (l : Launch) (Z : State) (a0 : Array Value) (hw : ∀ d ∈ tables_1, d.before a0 Z = true) (a d b g : Addr) (kd kg : ClassId) (r : Int32) (h0 : Heap) (n0 : Nat) (Z0 : n0 ≤ h0.size) (E1 : Exa Z h0 a "java/lang/String") (F1 : Fld Z h0 a "java/lang/String" "value" "[B" (.ref d)) (G1 : Fld Z h0 a "java/lang/String" "coder" "B" (.int (0 : Int32))) (V1 : Arv Z h0 d kd .byte (0 : Int32) [] (.int (0 : Int32))) (E2 : Exa Z h0 b "java/lang/String") (F2 : Fld Z h0 b "java/lang/String" "value" "[B" (.ref g)) (G2 : Fld Z h0 b "java/lang/String" "coder" "B" (.int (0 : Int32))) (V2 : Arv Z h0 g kg .byte (0 : Int32) [] (.int (0 : Int32))) (hab : a ≠ b) (cs : Int32) (S_cs : Sta Z h0 "java/lang/String" "COMPACT_STRINGS" "Z" (.int cs)) (hcs : ¬ cs = 0) (hr : r = if (some [] : Option (List Int32)) = some [] then 1 else 0) :
    Pays l (⟨"java/lang/String", "equals", "(Ljava/lang/Object;)Z"⟩ : MethodName) jdk_42_method_66_code 3 (some .boolean) ({ frames := 1, cells := 0, slots := 0, locals := 14 } : Room) Z #[(.ref a), (.ref b)] h0 (fun v h L => v = some (.int r) ∧ Fr n0 L ∧ h = h0) := by
  refine Pays.of (plainFor_of_name pn_java_lang_String) ?_
  intro pP eE sS m below methM cC T hx hby hml hret hlk hZ hown hnm eT X
  replace hown : sS.vm.findClass "java/lang/String" = some m.cls := hown
  have N0 := Fr.nil n0
  refine Go.cast (ef_rmEQ0_0 m a b) ?_
  refine Go.st (S' := T.setTop (mkF m 1 #[.val (.ref a), .val (.ref b), .unset] [(.ref a)])) (fun t kt => XS.aloadN X.here hx rfl (hb hby dEQ0_0_0) rfl rfl kt) ?_
  refine Go.st (S' := T.setTop (mkF m 2 #[.val (.ref a), .val (.ref b), .unset] [(.ref b), (.ref a)])) (fun t kt => XS.aloadN X.here hx rfl (hb hby dEQ0_0_1) rfl rfl kt) ?_
  refine Go.st (S' := T.setTop (mkF m 7 #[.val (.ref a), .val (.ref b), .unset] [])) (fun t kt => XT.acmpYes X.here hx rfl (pc0 := 2) (pc' := 7) rfl (hb hby dEQ0_0_2) rfl rfl rfl (XT.aa_ne_t (fun q => hab (Value.ref.inj q))) (by decide) (by decide) kt) ?_
  refine Go.st (S' := T.setTop (mkF m 8 #[.val (.ref a), .val (.ref b), .unset] [(.ref b)])) (fun t kt => XS.aloadN X.here hx rfl (hb hby dEQ0_0_7) rfl rfl kt) ?_
  obtain ⟨T1, X1, e1, st1⟩ := instY X hx hZ hown (hw _ (List.mem_of_getElem? (i := 87) rfl)) eT (Ins.self E2) (g := (mkF m 8 #[.val (.ref a), .val (.ref b), .unset] [(.ref b)])) rfl rfl (hb hby dEQ0_0_8)
  refine Go.st (S' := T1.setTop (mkF m 11 #[.val (.ref a), .val (.ref b), .unset] [(.int (1 : Int32))])) (fun t kt => st1 t kt) ?_
  refine Go.st (S' := T1.setTop (mkF m 14 #[.val (.ref a), .val (.ref b), .unset] [])) (fun t kt => XS.ifNo X1.here hx rfl (hb hby dEQ0_0_11) rfl (XT.i0_eq_f (by decide)) kt) ?_
  refine Go.st (S' := T1.setTop (mkF m 15 #[.val (.ref a), .val (.ref b), .unset] [(.ref b)])) (fun t kt => XS.aloadN X1.here hx rfl (hb hby dEQ0_0_14) rfl rfl kt) ?_
  obtain ⟨T2, X2, e2, st2⟩ := castY X1 hx hZ hown (hw _ (List.mem_of_getElem? (i := 87) rfl)) e1 (Ins.self E2) (g := (mkF m 15 #[.val (.ref a), .val (.ref b), .unset] [(.ref b)])) rfl rfl (hb hby dEQ0_0_15)
  refine Go.st (S' := T2.setTop (mkF m 18 #[.val (.ref a), .val (.ref b), .unset] [(.ref b)])) (fun t kt => st2 t kt) ?_
  refine Go.st (S' := T2.setTop (mkF m 19 #[.val (.ref a), .val (.ref b), .val (.ref b)] [])) (fun t kt => XS.astoreN X2.here hx rfl (hb hby dEQ0_0_18) rfl rfl rfl kt) ?_
  obtain ⟨T3, X3, e3, st3⟩ := getS X2 hx hZ (host := "") hown (hw _ (List.mem_of_getElem? (i := 59) rfl)) Via.refl e2 S_cs (g := (mkF m 19 #[.val (.ref a), .val (.ref b), .val (.ref b)] [])) rfl (hb hby dEQ0_0_19)
  refine Go.st (S' := T3.setTop (mkF m 22 #[.val (.ref a), .val (.ref b), .val (.ref b)] [(.int cs)])) (fun t kt => st3 t kt) ?_
  refine Go.st (S' := T3.setTop (mkF m 25 #[.val (.ref a), .val (.ref b), .val (.ref b)] [])) (fun t kt => XS.ifNo X3.here hx rfl (hb hby dEQ0_0_22) rfl (XT.i0_eq_f hcs) kt) ?_
  refine Go.st (S' := T3.setTop (mkF m 26 #[.val (.ref a), .val (.ref b), .val (.ref b)] [(.ref a)])) (fun t kt => XS.aloadN X3.here hx rfl (hb hby dEQ0_0_25) rfl rfl kt) ?_
  obtain ⟨T4, X4, e4, st4⟩ := getF X3 hx hZ hown (host := "") (Or.inl (hw _ (List.mem_of_getElem? (i := 71) rfl))) Via.refl e3 G1 (g := (mkF m 26 #[.val (.ref a), .val (.ref b), .val (.ref b)] [(.ref a)])) rfl rfl (hb hby dEQ0_0_26)
  refine Go.st (S' := T4.setTop (mkF m 29 #[.val (.ref a), .val (.ref b), .val (.ref b)] [(.int (0 : Int32))])) (fun t kt => st4 t kt) ?_
  refine Go.st (S' := T4.setTop (mkF m 30 #[.val (.ref a), .val (.ref b), .val (.ref b)] [(.ref b), (.int (0 : Int32))])) (fun t kt => XS.aloadN X4.here hx rfl (hb hby dEQ0_0_29) rfl rfl kt) ?_
  obtain ⟨T5, X5, e5, st5⟩ := getF X4 hx hZ hown (host := "") (Or.inl (hw _ (List.mem_of_getElem? (i := 71) rfl))) Via.refl e4 G2 (g := (mkF m 30 #[.val (.ref a), .val (.ref b), .val (.ref b)] [(.ref b), (.int (0 : Int32))])) rfl rfl (hb hby dEQ0_0_30)
  refine Go.st (S' := T5.setTop (mkF m 33 #[.val (.ref a), .val (.ref b), .val (.ref b)] [(.int (0 : Int32)), (.int (0 : Int32))])) (fun t kt => st5 t kt) ?_
  refine Go.st (S' := T5.setTop (mkF m 36 #[.val (.ref a), .val (.ref b), .val (.ref b)] [])) (fun t kt => XS.icmpNo X5.here hx rfl (hb hby dEQ0_0_33) rfl (XT.ii_ne_f (by decide)) kt) ?_
  refine Go.st (S' := T5.setTop (mkF m 37 #[.val (.ref a), .val (.ref b), .val (.ref b)] [(.ref a)])) (fun t kt => XS.aloadN X5.here hx rfl (hb hby dEQ0_0_36) rfl rfl kt) ?_
  obtain ⟨T6, X6, e6, st6⟩ := getF X5 hx hZ hown (host := "") (Or.inl (hw _ (List.mem_of_getElem? (i := 73) rfl))) Via.refl e5 F1 (g := (mkF m 37 #[.val (.ref a), .val (.ref b), .val (.ref b)] [(.ref a)])) rfl rfl (hb hby dEQ0_0_37)
  refine Go.st (S' := T6.setTop (mkF m 40 #[.val (.ref a), .val (.ref b), .val (.ref b)] [(.ref d)])) (fun t kt => st6 t kt) ?_
  refine Go.st (S' := T6.setTop (mkF m 41 #[.val (.ref a), .val (.ref b), .val (.ref b)] [(.ref b), (.ref d)])) (fun t kt => XS.aloadN X6.here hx rfl (hb hby dEQ0_0_40) rfl rfl kt) ?_
  obtain ⟨T7, X7, e7, st7⟩ := getF X6 hx hZ hown (host := "") (Or.inl (hw _ (List.mem_of_getElem? (i := 73) rfl))) Via.refl e6 F2 (g := (mkF m 41 #[.val (.ref a), .val (.ref b), .val (.ref b)] [(.ref b), (.ref d)])) rfl rfl (hb hby dEQ0_0_41)
  refine Go.st (S' := T7.setTop (mkF m 44 #[.val (.ref a), .val (.ref b), .val (.ref b)] [(.ref g), (.ref d)])) (fun t kt => st7 t kt) ?_
  refine Go.stat X7 hx hZ hown (hw _ (List.mem_of_getElem? (i := 88) rfl)) (hw _ (List.mem_of_getElem? (i := 89) rfl)) (hw _ (List.mem_of_getElem? (i := 90) rfl)) (hw _ (List.mem_of_getElem? (i := 91) rfl)) (by decide) (argsL := [(.ref d), (.ref g)]) (rest := []) (rmLE0_0 l Z a0 hw d g kd kg  r h0 n0 Z0 V1 V2 hr) e7 rfl (by rw [hml]; rfl) pd___B_B_Z rfl (hb hby dEQ0_0_44) 0 (Nat.le_refl _) (by decide) (by decide) (by decide) (by decide) ?_
  intro v8 T8 L8 X8 hQ8
  obtain ⟨hv8, N8', e8⟩ := hQ8
  subst hv8
  have N8 := Fr.app N0 N8'
  show Go pP eE below _ (T8.setTop (mkF m 47 #[.val (.ref a), .val (.ref b), .val (.ref b)] [(.int r)]))
  by_cases hc47_9 : r = 0
  · refine Go.st (S' := T8.setTop (mkF m 54 #[.val (.ref a), .val (.ref b), .val (.ref b)] [])) (fun t kt => XS.ifYes X8.here hx rfl (pc0 := 47) (pc' := 54) rfl (hb hby dEQ0_0_47) rfl (XT.i0_eq_t hc47_9) (by decide) (by decide) kt) ?_
    refine Go.st (S' := T8.setTop (mkF m 55 #[.val (.ref a), .val (.ref b), .val (.ref b)] [(.int (0 : Int32))])) (fun t kt => XS.iconst X8.here hx rfl (hb hby dEQ0_0_54) kt) ?_
    exact ret_b X8 hx hlk hret (hb hby dEQ0_0_55) (by decide) (by decide) (⟨by rw [hc47_9]; rfl, N8, e8⟩)
  · refine Go.st (S' := T8.setTop (mkF m 50 #[.val (.ref a), .val (.ref b), .val (.ref b)] [])) (fun t kt => XS.ifNo X8.here hx rfl (hb hby dEQ0_0_47) rfl (XT.i0_eq_f hc47_9) kt) ?_
    refine Go.st (S' := T8.setTop (mkF m 51 #[.val (.ref a), .val (.ref b), .val (.ref b)] [(.int (1 : Int32))])) (fun t kt => XS.iconst X8.here hx rfl (hb hby dEQ0_0_50) kt) ?_
    refine Go.st (S' := T8.setTop (mkF m 55 #[.val (.ref a), .val (.ref b), .val (.ref b)] [(.int (1 : Int32))])) (fun t kt => XS.goto X8.here hx rfl (pc0 := 51) (pc' := 55) rfl (hb hby dEQ0_0_51) (by decide) (by decide) kt) ?_
    exact ret_b X8 hx hlk hret (hb hby dEQ0_0_55) (by decide) (by decide) (⟨by rw [own_r01 hr hc47_9]; rfl, N8, e8⟩)
theorem dLE0_1_0 : decode jdk_43_method_13_code 0 = .ok (.aload_n 0, 1) := by decide +kernel
theorem dLE0_1_1 : decode jdk_43_method_13_code 1 = .ok (.arraylength, 1) := by decide +kernel
theorem dLE0_1_2 : decode jdk_43_method_13_code 2 = .ok (.aload_n 1, 1) := by decide +kernel
theorem dLE0_1_3 : decode jdk_43_method_13_code 3 = .ok (.arraylength, 1) := by decide +kernel
theorem dLE0_1_4 : decode jdk_43_method_13_code 4 = .ok (.if_icmp .ne 30, 3) := by decide +kernel
theorem dLE0_1_34 : decode jdk_43_method_13_code 34 = .ok (.iconst 0, 1) := by decide +kernel
theorem dLE0_1_35 : decode jdk_43_method_13_code 35 = .ok (.ireturn, 1) := by decide +kernel
theorem ef_rmLE0_1 (m : MethodId) (d : Addr) (g : Addr) : entryFrame m #[(.ref d), (.ref g)] 3 = mkF m 0 #[.val (.ref d), .val (.ref g), .unset] [] := by first | exact own_entry rfl | (simp [entryFrame, mkF, argsToLocals, Value.category]; done) | rfl
set_option maxRecDepth 65536 in
set_option maxHeartbeats 40000000 in
theorem rmLE0_1 (l : Launch) (Z : State) (a0 : Array Value) (hw : ∀ d ∈ tables_1, d.before a0 Z = true) (d g : Addr) (kd kg : ClassId) (y0 : Int32) (r : Int32) (h0 : Heap) (n0 : Nat) (Z0 : n0 ≤ h0.size) (V_d : Arv Z h0 d kd .byte (0 : Int32) [] (.int (0 : Int32))) (V_g : Arv Z h0 g kg .byte (1 : Int32) [(.int y0)] (.int (0 : Int32))) (hr : r = if (some [] : Option (List Int32)) = some [y0] then 1 else 0) :
    Pays l (⟨"java/lang/StringLatin1", "equals", "([B[B)Z"⟩ : MethodName) jdk_43_method_13_code 3 (some .boolean) ({ frames := 0, cells := 0, slots := 0, locals := 0 } : Room) Z #[(.ref d), (.ref g)] h0 (fun v h L => v = some (.int r) ∧ Fr n0 L ∧ h = h0) := by
  refine Pays.of (plainFor_of_name pn_java_lang_StringLatin1) ?_
  intro pP eE sS m below methM cC T hx hby hml hret hlk hZ hown hnm eT X
  replace hown : sS.vm.findClass "java/lang/StringLatin1" = some m.cls := hown
  have N0 := Fr.nil n0
  refine Go.cast (ef_rmLE0_1 m d g) ?_
  refine Go.st (S' := T.setTop (mkF m 1 #[.val (.ref d), .val (.ref g), .unset] [(.ref d)])) (fun t kt => XS.aloadN X.here hx rfl (hb hby dLE0_1_0) rfl rfl kt) ?_
  obtain ⟨cl1, Ar1, q1, S1, M1, H1, G1⟩ := id V_d
  refine Go.st (S' := T.setTop (mkF m 2 #[.val (.ref d), .val (.ref g), .unset] [(.int (0 : Int32))])) (fun t kt => own_alen X hx hZ eT Ar1 (len_of S1 M1) rfl (hb hby dLE0_1_1) t kt) ?_
  refine Go.st (S' := T.setTop (mkF m 3 #[.val (.ref d), .val (.ref g), .unset] [(.ref g), (.int (0 : Int32))])) (fun t kt => XS.aloadN X.here hx rfl (hb hby dLE0_1_2) rfl rfl kt) ?_
  obtain ⟨cl2, Ar2, q2, S2, M2, H2, G2⟩ := id V_g
  refine Go.st (S' := T.setTop (mkF m 4 #[.val (.ref d), .val (.ref g), .unset] [(.int (1 : Int32)), (.int (0 : Int32))])) (fun t kt => own_alen X hx hZ eT Ar2 (len_of S2 M2) rfl (hb hby dLE0_1_3) t kt) ?_
  refine Go.st (S' := T.setTop (mkF m 34 #[.val (.ref d), .val (.ref g), .unset] [])) (fun t kt => XS.icmpYes X.here hx rfl (pc0 := 4) (pc' := 34) rfl (hb hby dLE0_1_4) rfl (XT.ii_ne_t (by decide)) (by decide) (by decide) kt) ?_
  refine Go.st (S' := T.setTop (mkF m 35 #[.val (.ref d), .val (.ref g), .unset] [(.int (0 : Int32))])) (fun t kt => XS.iconst X.here hx rfl (hb hby dLE0_1_34) kt) ?_
  exact ret_b X hx hlk hret (hb hby dLE0_1_35) (by decide) (by decide) (⟨by show some (Value.int (0 : Int32)) = some (.int r); rw [hr]; simp, N0, eT⟩)
theorem dEQ0_1_0 : decode jdk_42_method_66_code 0 = .ok (.aload_n 0, 1) := by decide +kernel
theorem dEQ0_1_1 : decode jdk_42_method_66_code 1 = .ok (.aload_n 1, 1) := by decide +kernel
theorem dEQ0_1_2 : decode jdk_42_method_66_code 2 = .ok (.if_acmp .ne 5, 3) := by decide +kernel
theorem dEQ0_1_7 : decode jdk_42_method_66_code 7 = .ok (.aload_n 1, 1) := by decide +kernel
theorem dEQ0_1_8 : decode jdk_42_method_66_code 8 = .ok (.instanceof 10, 3) := by decide +kernel
theorem dEQ0_1_11 : decode jdk_42_method_66_code 11 = .ok (.ifCond .eq 43, 3) := by decide +kernel
theorem dEQ0_1_14 : decode jdk_42_method_66_code 14 = .ok (.aload_n 1, 1) := by decide +kernel
theorem dEQ0_1_15 : decode jdk_42_method_66_code 15 = .ok (.checkcast 10, 3) := by decide +kernel
theorem dEQ0_1_18 : decode jdk_42_method_66_code 18 = .ok (.astore_n 2, 1) := by decide +kernel
theorem dEQ0_1_19 : decode jdk_42_method_66_code 19 = .ok (.getstatic 38, 3) := by decide +kernel
theorem dEQ0_1_22 : decode jdk_42_method_66_code 22 = .ok (.ifCond .eq 14, 3) := by decide +kernel
theorem dEQ0_1_25 : decode jdk_42_method_66_code 25 = .ok (.aload_n 0, 1) := by decide +kernel
theorem dEQ0_1_26 : decode jdk_42_method_66_code 26 = .ok (.getfield 15, 3) := by decide +kernel
theorem dEQ0_1_29 : decode jdk_42_method_66_code 29 = .ok (.aload_n 2, 1) := by decide +kernel
theorem dEQ0_1_30 : decode jdk_42_method_66_code 30 = .ok (.getfield 15, 3) := by decide +kernel
theorem dEQ0_1_33 : decode jdk_42_method_66_code 33 = .ok (.if_icmp .ne 21, 3) := by decide +kernel
theorem dEQ0_1_36 : decode jdk_42_method_66_code 36 = .ok (.aload_n 0, 1) := by decide +kernel
theorem dEQ0_1_37 : decode jdk_42_method_66_code 37 = .ok (.getfield 9, 3) := by decide +kernel
theorem dEQ0_1_40 : decode jdk_42_method_66_code 40 = .ok (.aload_n 2, 1) := by decide +kernel
theorem dEQ0_1_41 : decode jdk_42_method_66_code 41 = .ok (.getfield 9, 3) := by decide +kernel
theorem dEQ0_1_44 : decode jdk_42_method_66_code 44 = .ok (.invokestatic 541, 3) := by decide +kernel
theorem dEQ0_1_47 : decode jdk_42_method_66_code 47 = .ok (.ifCond .eq 7, 3) := by decide +kernel
theorem dEQ0_1_50 : decode jdk_42_method_66_code 50 = .ok (.iconst 1, 1) := by decide +kernel
theorem dEQ0_1_51 : decode jdk_42_method_66_code 51 = .ok (.goto 4, 3) := by decide +kernel
theorem dEQ0_1_54 : decode jdk_42_method_66_code 54 = .ok (.iconst 0, 1) := by decide +kernel
theorem dEQ0_1_55 : decode jdk_42_method_66_code 55 = .ok (.ireturn, 1) := by decide +kernel
theorem ef_rmEQ0_1 (m : MethodId) (a : Addr) (b : Addr) : entryFrame m #[(.ref a), (.ref b)] 3 = mkF m 0 #[.val (.ref a), .val (.ref b), .unset] [] := by first | exact own_entry rfl | (simp [entryFrame, mkF, argsToLocals, Value.category]; done) | rfl
set_option maxRecDepth 65536 in
set_option maxHeartbeats 40000000 in
theorem rmEQ0_1 (l : Launch) (Z : State) (a0 : Array Value) (hw : ∀ d ∈ tables_1, d.before a0 Z = true) (a d b g : Addr) (kd kg : ClassId) (y0 : Int32) (r : Int32) (h0 : Heap) (n0 : Nat) (Z0 : n0 ≤ h0.size) (E1 : Exa Z h0 a "java/lang/String") (F1 : Fld Z h0 a "java/lang/String" "value" "[B" (.ref d)) (G1 : Fld Z h0 a "java/lang/String" "coder" "B" (.int (0 : Int32))) (V1 : Arv Z h0 d kd .byte (0 : Int32) [] (.int (0 : Int32))) (E2 : Exa Z h0 b "java/lang/String") (F2 : Fld Z h0 b "java/lang/String" "value" "[B" (.ref g)) (G2 : Fld Z h0 b "java/lang/String" "coder" "B" (.int (0 : Int32))) (V2 : Arv Z h0 g kg .byte (1 : Int32) [(.int y0)] (.int (0 : Int32))) (hab : a ≠ b) (cs : Int32) (S_cs : Sta Z h0 "java/lang/String" "COMPACT_STRINGS" "Z" (.int cs)) (hcs : ¬ cs = 0) (hr : r = if (some [] : Option (List Int32)) = some [y0] then 1 else 0) :
    Pays l (⟨"java/lang/String", "equals", "(Ljava/lang/Object;)Z"⟩ : MethodName) jdk_42_method_66_code 3 (some .boolean) ({ frames := 1, cells := 0, slots := 0, locals := 14 } : Room) Z #[(.ref a), (.ref b)] h0 (fun v h L => v = some (.int r) ∧ Fr n0 L ∧ h = h0) := by
  refine Pays.of (plainFor_of_name pn_java_lang_String) ?_
  intro pP eE sS m below methM cC T hx hby hml hret hlk hZ hown hnm eT X
  replace hown : sS.vm.findClass "java/lang/String" = some m.cls := hown
  have N0 := Fr.nil n0
  refine Go.cast (ef_rmEQ0_1 m a b) ?_
  refine Go.st (S' := T.setTop (mkF m 1 #[.val (.ref a), .val (.ref b), .unset] [(.ref a)])) (fun t kt => XS.aloadN X.here hx rfl (hb hby dEQ0_1_0) rfl rfl kt) ?_
  refine Go.st (S' := T.setTop (mkF m 2 #[.val (.ref a), .val (.ref b), .unset] [(.ref b), (.ref a)])) (fun t kt => XS.aloadN X.here hx rfl (hb hby dEQ0_1_1) rfl rfl kt) ?_
  refine Go.st (S' := T.setTop (mkF m 7 #[.val (.ref a), .val (.ref b), .unset] [])) (fun t kt => XT.acmpYes X.here hx rfl (pc0 := 2) (pc' := 7) rfl (hb hby dEQ0_1_2) rfl rfl rfl (XT.aa_ne_t (fun q => hab (Value.ref.inj q))) (by decide) (by decide) kt) ?_
  refine Go.st (S' := T.setTop (mkF m 8 #[.val (.ref a), .val (.ref b), .unset] [(.ref b)])) (fun t kt => XS.aloadN X.here hx rfl (hb hby dEQ0_1_7) rfl rfl kt) ?_
  obtain ⟨T1, X1, e1, st1⟩ := instY X hx hZ hown (hw _ (List.mem_of_getElem? (i := 87) rfl)) eT (Ins.self E2) (g := (mkF m 8 #[.val (.ref a), .val (.ref b), .unset] [(.ref b)])) rfl rfl (hb hby dEQ0_1_8)
  refine Go.st (S' := T1.setTop (mkF m 11 #[.val (.ref a), .val (.ref b), .unset] [(.int (1 : Int32))])) (fun t kt => st1 t kt) ?_
  refine Go.st (S' := T1.setTop (mkF m 14 #[.val (.ref a), .val (.ref b), .unset] [])) (fun t kt => XS.ifNo X1.here hx rfl (hb hby dEQ0_1_11) rfl (XT.i0_eq_f (by decide)) kt) ?_
  refine Go.st (S' := T1.setTop (mkF m 15 #[.val (.ref a), .val (.ref b), .unset] [(.ref b)])) (fun t kt => XS.aloadN X1.here hx rfl (hb hby dEQ0_1_14) rfl rfl kt) ?_
  obtain ⟨T2, X2, e2, st2⟩ := castY X1 hx hZ hown (hw _ (List.mem_of_getElem? (i := 87) rfl)) e1 (Ins.self E2) (g := (mkF m 15 #[.val (.ref a), .val (.ref b), .unset] [(.ref b)])) rfl rfl (hb hby dEQ0_1_15)
  refine Go.st (S' := T2.setTop (mkF m 18 #[.val (.ref a), .val (.ref b), .unset] [(.ref b)])) (fun t kt => st2 t kt) ?_
  refine Go.st (S' := T2.setTop (mkF m 19 #[.val (.ref a), .val (.ref b), .val (.ref b)] [])) (fun t kt => XS.astoreN X2.here hx rfl (hb hby dEQ0_1_18) rfl rfl rfl kt) ?_
  obtain ⟨T3, X3, e3, st3⟩ := getS X2 hx hZ (host := "") hown (hw _ (List.mem_of_getElem? (i := 59) rfl)) Via.refl e2 S_cs (g := (mkF m 19 #[.val (.ref a), .val (.ref b), .val (.ref b)] [])) rfl (hb hby dEQ0_1_19)
  refine Go.st (S' := T3.setTop (mkF m 22 #[.val (.ref a), .val (.ref b), .val (.ref b)] [(.int cs)])) (fun t kt => st3 t kt) ?_
  refine Go.st (S' := T3.setTop (mkF m 25 #[.val (.ref a), .val (.ref b), .val (.ref b)] [])) (fun t kt => XS.ifNo X3.here hx rfl (hb hby dEQ0_1_22) rfl (XT.i0_eq_f hcs) kt) ?_
  refine Go.st (S' := T3.setTop (mkF m 26 #[.val (.ref a), .val (.ref b), .val (.ref b)] [(.ref a)])) (fun t kt => XS.aloadN X3.here hx rfl (hb hby dEQ0_1_25) rfl rfl kt) ?_
  obtain ⟨T4, X4, e4, st4⟩ := getF X3 hx hZ hown (host := "") (Or.inl (hw _ (List.mem_of_getElem? (i := 71) rfl))) Via.refl e3 G1 (g := (mkF m 26 #[.val (.ref a), .val (.ref b), .val (.ref b)] [(.ref a)])) rfl rfl (hb hby dEQ0_1_26)
  refine Go.st (S' := T4.setTop (mkF m 29 #[.val (.ref a), .val (.ref b), .val (.ref b)] [(.int (0 : Int32))])) (fun t kt => st4 t kt) ?_
  refine Go.st (S' := T4.setTop (mkF m 30 #[.val (.ref a), .val (.ref b), .val (.ref b)] [(.ref b), (.int (0 : Int32))])) (fun t kt => XS.aloadN X4.here hx rfl (hb hby dEQ0_1_29) rfl rfl kt) ?_
  obtain ⟨T5, X5, e5, st5⟩ := getF X4 hx hZ hown (host := "") (Or.inl (hw _ (List.mem_of_getElem? (i := 71) rfl))) Via.refl e4 G2 (g := (mkF m 30 #[.val (.ref a), .val (.ref b), .val (.ref b)] [(.ref b), (.int (0 : Int32))])) rfl rfl (hb hby dEQ0_1_30)
  refine Go.st (S' := T5.setTop (mkF m 33 #[.val (.ref a), .val (.ref b), .val (.ref b)] [(.int (0 : Int32)), (.int (0 : Int32))])) (fun t kt => st5 t kt) ?_
  refine Go.st (S' := T5.setTop (mkF m 36 #[.val (.ref a), .val (.ref b), .val (.ref b)] [])) (fun t kt => XS.icmpNo X5.here hx rfl (hb hby dEQ0_1_33) rfl (XT.ii_ne_f (by decide)) kt) ?_
  refine Go.st (S' := T5.setTop (mkF m 37 #[.val (.ref a), .val (.ref b), .val (.ref b)] [(.ref a)])) (fun t kt => XS.aloadN X5.here hx rfl (hb hby dEQ0_1_36) rfl rfl kt) ?_
  obtain ⟨T6, X6, e6, st6⟩ := getF X5 hx hZ hown (host := "") (Or.inl (hw _ (List.mem_of_getElem? (i := 73) rfl))) Via.refl e5 F1 (g := (mkF m 37 #[.val (.ref a), .val (.ref b), .val (.ref b)] [(.ref a)])) rfl rfl (hb hby dEQ0_1_37)
  refine Go.st (S' := T6.setTop (mkF m 40 #[.val (.ref a), .val (.ref b), .val (.ref b)] [(.ref d)])) (fun t kt => st6 t kt) ?_
  refine Go.st (S' := T6.setTop (mkF m 41 #[.val (.ref a), .val (.ref b), .val (.ref b)] [(.ref b), (.ref d)])) (fun t kt => XS.aloadN X6.here hx rfl (hb hby dEQ0_1_40) rfl rfl kt) ?_
  obtain ⟨T7, X7, e7, st7⟩ := getF X6 hx hZ hown (host := "") (Or.inl (hw _ (List.mem_of_getElem? (i := 73) rfl))) Via.refl e6 F2 (g := (mkF m 41 #[.val (.ref a), .val (.ref b), .val (.ref b)] [(.ref b), (.ref d)])) rfl rfl (hb hby dEQ0_1_41)
  refine Go.st (S' := T7.setTop (mkF m 44 #[.val (.ref a), .val (.ref b), .val (.ref b)] [(.ref g), (.ref d)])) (fun t kt => st7 t kt) ?_
  refine Go.stat X7 hx hZ hown (hw _ (List.mem_of_getElem? (i := 88) rfl)) (hw _ (List.mem_of_getElem? (i := 89) rfl)) (hw _ (List.mem_of_getElem? (i := 90) rfl)) (hw _ (List.mem_of_getElem? (i := 91) rfl)) (by decide) (argsL := [(.ref d), (.ref g)]) (rest := []) (rmLE0_1 l Z a0 hw d g kd kg y0 r h0 n0 Z0 V1 V2 hr) e7 rfl (by rw [hml]; rfl) pd___B_B_Z rfl (hb hby dEQ0_1_44) 0 (Nat.le_refl _) (by decide) (by decide) (by decide) (by decide) ?_
  intro v8 T8 L8 X8 hQ8
  obtain ⟨hv8, N8', e8⟩ := hQ8
  subst hv8
  have N8 := Fr.app N0 N8'
  show Go pP eE below _ (T8.setTop (mkF m 47 #[.val (.ref a), .val (.ref b), .val (.ref b)] [(.int r)]))
  by_cases hc47_9 : r = 0
  · refine Go.st (S' := T8.setTop (mkF m 54 #[.val (.ref a), .val (.ref b), .val (.ref b)] [])) (fun t kt => XS.ifYes X8.here hx rfl (pc0 := 47) (pc' := 54) rfl (hb hby dEQ0_1_47) rfl (XT.i0_eq_t hc47_9) (by decide) (by decide) kt) ?_
    refine Go.st (S' := T8.setTop (mkF m 55 #[.val (.ref a), .val (.ref b), .val (.ref b)] [(.int (0 : Int32))])) (fun t kt => XS.iconst X8.here hx rfl (hb hby dEQ0_1_54) kt) ?_
    exact ret_b X8 hx hlk hret (hb hby dEQ0_1_55) (by decide) (by decide) (⟨by rw [hc47_9]; rfl, N8, e8⟩)
  · refine Go.st (S' := T8.setTop (mkF m 50 #[.val (.ref a), .val (.ref b), .val (.ref b)] [])) (fun t kt => XS.ifNo X8.here hx rfl (hb hby dEQ0_1_47) rfl (XT.i0_eq_f hc47_9) kt) ?_
    refine Go.st (S' := T8.setTop (mkF m 51 #[.val (.ref a), .val (.ref b), .val (.ref b)] [(.int (1 : Int32))])) (fun t kt => XS.iconst X8.here hx rfl (hb hby dEQ0_1_50) kt) ?_
    refine Go.st (S' := T8.setTop (mkF m 55 #[.val (.ref a), .val (.ref b), .val (.ref b)] [(.int (1 : Int32))])) (fun t kt => XS.goto X8.here hx rfl (pc0 := 51) (pc' := 55) rfl (hb hby dEQ0_1_51) (by decide) (by decide) kt) ?_
    exact ret_b X8 hx hlk hret (hb hby dEQ0_1_55) (by decide) (by decide) (⟨by rw [own_r01 hr hc47_9]; rfl, N8, e8⟩)
theorem dLE0_2_0 : decode jdk_43_method_13_code 0 = .ok (.aload_n 0, 1) := by decide +kernel
theorem dLE0_2_1 : decode jdk_43_method_13_code 1 = .ok (.arraylength, 1) := by decide +kernel
theorem dLE0_2_2 : decode jdk_43_method_13_code 2 = .ok (.aload_n 1, 1) := by decide +kernel
theorem dLE0_2_3 : decode jdk_43_method_13_code 3 = .ok (.arraylength, 1) := by decide +kernel
theorem dLE0_2_4 : decode jdk_43_method_13_code 4 = .ok (.if_icmp .ne 30, 3) := by decide +kernel
theorem dLE0_2_34 : decode jdk_43_method_13_code 34 = .ok (.iconst 0, 1) := by decide +kernel
theorem dLE0_2_35 : decode jdk_43_method_13_code 35 = .ok (.ireturn, 1) := by decide +kernel
theorem ef_rmLE0_2 (m : MethodId) (d : Addr) (g : Addr) : entryFrame m #[(.ref d), (.ref g)] 3 = mkF m 0 #[.val (.ref d), .val (.ref g), .unset] [] := by first | exact own_entry rfl | (simp [entryFrame, mkF, argsToLocals, Value.category]; done) | rfl
set_option maxRecDepth 65536 in
set_option maxHeartbeats 40000000 in
theorem rmLE0_2 (l : Launch) (Z : State) (a0 : Array Value) (hw : ∀ d ∈ tables_1, d.before a0 Z = true) (d g : Addr) (kd kg : ClassId) (y0 y1 : Int32) (r : Int32) (h0 : Heap) (n0 : Nat) (Z0 : n0 ≤ h0.size) (V_d : Arv Z h0 d kd .byte (0 : Int32) [] (.int (0 : Int32))) (V_g : Arv Z h0 g kg .byte (2 : Int32) [(.int y0), (.int y1)] (.int (0 : Int32))) (hr : r = if (some [] : Option (List Int32)) = some [y0, y1] then 1 else 0) :
    Pays l (⟨"java/lang/StringLatin1", "equals", "([B[B)Z"⟩ : MethodName) jdk_43_method_13_code 3 (some .boolean) ({ frames := 0, cells := 0, slots := 0, locals := 0 } : Room) Z #[(.ref d), (.ref g)] h0 (fun v h L => v = some (.int r) ∧ Fr n0 L ∧ h = h0) := by
  refine Pays.of (plainFor_of_name pn_java_lang_StringLatin1) ?_
  intro pP eE sS m below methM cC T hx hby hml hret hlk hZ hown hnm eT X
  replace hown : sS.vm.findClass "java/lang/StringLatin1" = some m.cls := hown
  have N0 := Fr.nil n0
  refine Go.cast (ef_rmLE0_2 m d g) ?_
  refine Go.st (S' := T.setTop (mkF m 1 #[.val (.ref d), .val (.ref g), .unset] [(.ref d)])) (fun t kt => XS.aloadN X.here hx rfl (hb hby dLE0_2_0) rfl rfl kt) ?_
  obtain ⟨cl1, Ar1, q1, S1, M1, H1, G1⟩ := id V_d
  refine Go.st (S' := T.setTop (mkF m 2 #[.val (.ref d), .val (.ref g), .unset] [(.int (0 : Int32))])) (fun t kt => own_alen X hx hZ eT Ar1 (len_of S1 M1) rfl (hb hby dLE0_2_1) t kt) ?_
  refine Go.st (S' := T.setTop (mkF m 3 #[.val (.ref d), .val (.ref g), .unset] [(.ref g), (.int (0 : Int32))])) (fun t kt => XS.aloadN X.here hx rfl (hb hby dLE0_2_2) rfl rfl kt) ?_
  obtain ⟨cl2, Ar2, q2, S2, M2, H2, G2⟩ := id V_g
  refine Go.st (S' := T.setTop (mkF m 4 #[.val (.ref d), .val (.ref g), .unset] [(.int (2 : Int32)), (.int (0 : Int32))])) (fun t kt => own_alen X hx hZ eT Ar2 (len_of S2 M2) rfl (hb hby dLE0_2_3) t kt) ?_
  refine Go.st (S' := T.setTop (mkF m 34 #[.val (.ref d), .val (.ref g), .unset] [])) (fun t kt => XS.icmpYes X.here hx rfl (pc0 := 4) (pc' := 34) rfl (hb hby dLE0_2_4) rfl (XT.ii_ne_t (by decide)) (by decide) (by decide) kt) ?_
  refine Go.st (S' := T.setTop (mkF m 35 #[.val (.ref d), .val (.ref g), .unset] [(.int (0 : Int32))])) (fun t kt => XS.iconst X.here hx rfl (hb hby dLE0_2_34) kt) ?_
  exact ret_b X hx hlk hret (hb hby dLE0_2_35) (by decide) (by decide) (⟨by show some (Value.int (0 : Int32)) = some (.int r); rw [hr]; simp, N0, eT⟩)
theorem dEQ0_2_0 : decode jdk_42_method_66_code 0 = .ok (.aload_n 0, 1) := by decide +kernel
theorem dEQ0_2_1 : decode jdk_42_method_66_code 1 = .ok (.aload_n 1, 1) := by decide +kernel
theorem dEQ0_2_2 : decode jdk_42_method_66_code 2 = .ok (.if_acmp .ne 5, 3) := by decide +kernel
theorem dEQ0_2_7 : decode jdk_42_method_66_code 7 = .ok (.aload_n 1, 1) := by decide +kernel
theorem dEQ0_2_8 : decode jdk_42_method_66_code 8 = .ok (.instanceof 10, 3) := by decide +kernel
theorem dEQ0_2_11 : decode jdk_42_method_66_code 11 = .ok (.ifCond .eq 43, 3) := by decide +kernel
theorem dEQ0_2_14 : decode jdk_42_method_66_code 14 = .ok (.aload_n 1, 1) := by decide +kernel
theorem dEQ0_2_15 : decode jdk_42_method_66_code 15 = .ok (.checkcast 10, 3) := by decide +kernel
theorem dEQ0_2_18 : decode jdk_42_method_66_code 18 = .ok (.astore_n 2, 1) := by decide +kernel
theorem dEQ0_2_19 : decode jdk_42_method_66_code 19 = .ok (.getstatic 38, 3) := by decide +kernel
theorem dEQ0_2_22 : decode jdk_42_method_66_code 22 = .ok (.ifCond .eq 14, 3) := by decide +kernel
theorem dEQ0_2_25 : decode jdk_42_method_66_code 25 = .ok (.aload_n 0, 1) := by decide +kernel
theorem dEQ0_2_26 : decode jdk_42_method_66_code 26 = .ok (.getfield 15, 3) := by decide +kernel
theorem dEQ0_2_29 : decode jdk_42_method_66_code 29 = .ok (.aload_n 2, 1) := by decide +kernel
theorem dEQ0_2_30 : decode jdk_42_method_66_code 30 = .ok (.getfield 15, 3) := by decide +kernel
theorem dEQ0_2_33 : decode jdk_42_method_66_code 33 = .ok (.if_icmp .ne 21, 3) := by decide +kernel
theorem dEQ0_2_36 : decode jdk_42_method_66_code 36 = .ok (.aload_n 0, 1) := by decide +kernel
theorem dEQ0_2_37 : decode jdk_42_method_66_code 37 = .ok (.getfield 9, 3) := by decide +kernel
theorem dEQ0_2_40 : decode jdk_42_method_66_code 40 = .ok (.aload_n 2, 1) := by decide +kernel
theorem dEQ0_2_41 : decode jdk_42_method_66_code 41 = .ok (.getfield 9, 3) := by decide +kernel
theorem dEQ0_2_44 : decode jdk_42_method_66_code 44 = .ok (.invokestatic 541, 3) := by decide +kernel
theorem dEQ0_2_47 : decode jdk_42_method_66_code 47 = .ok (.ifCond .eq 7, 3) := by decide +kernel
theorem dEQ0_2_50 : decode jdk_42_method_66_code 50 = .ok (.iconst 1, 1) := by decide +kernel
theorem dEQ0_2_51 : decode jdk_42_method_66_code 51 = .ok (.goto 4, 3) := by decide +kernel
theorem dEQ0_2_54 : decode jdk_42_method_66_code 54 = .ok (.iconst 0, 1) := by decide +kernel
theorem dEQ0_2_55 : decode jdk_42_method_66_code 55 = .ok (.ireturn, 1) := by decide +kernel
theorem ef_rmEQ0_2 (m : MethodId) (a : Addr) (b : Addr) : entryFrame m #[(.ref a), (.ref b)] 3 = mkF m 0 #[.val (.ref a), .val (.ref b), .unset] [] := by first | exact own_entry rfl | (simp [entryFrame, mkF, argsToLocals, Value.category]; done) | rfl
set_option maxRecDepth 65536 in
set_option maxHeartbeats 40000000 in
theorem rmEQ0_2 (l : Launch) (Z : State) (a0 : Array Value) (hw : ∀ d ∈ tables_1, d.before a0 Z = true) (a d b g : Addr) (kd kg : ClassId) (y0 y1 : Int32) (r : Int32) (h0 : Heap) (n0 : Nat) (Z0 : n0 ≤ h0.size) (E1 : Exa Z h0 a "java/lang/String") (F1 : Fld Z h0 a "java/lang/String" "value" "[B" (.ref d)) (G1 : Fld Z h0 a "java/lang/String" "coder" "B" (.int (0 : Int32))) (V1 : Arv Z h0 d kd .byte (0 : Int32) [] (.int (0 : Int32))) (E2 : Exa Z h0 b "java/lang/String") (F2 : Fld Z h0 b "java/lang/String" "value" "[B" (.ref g)) (G2 : Fld Z h0 b "java/lang/String" "coder" "B" (.int (0 : Int32))) (V2 : Arv Z h0 g kg .byte (2 : Int32) [(.int y0), (.int y1)] (.int (0 : Int32))) (hab : a ≠ b) (cs : Int32) (S_cs : Sta Z h0 "java/lang/String" "COMPACT_STRINGS" "Z" (.int cs)) (hcs : ¬ cs = 0) (hr : r = if (some [] : Option (List Int32)) = some [y0, y1] then 1 else 0) :
    Pays l (⟨"java/lang/String", "equals", "(Ljava/lang/Object;)Z"⟩ : MethodName) jdk_42_method_66_code 3 (some .boolean) ({ frames := 1, cells := 0, slots := 0, locals := 14 } : Room) Z #[(.ref a), (.ref b)] h0 (fun v h L => v = some (.int r) ∧ Fr n0 L ∧ h = h0) := by
  refine Pays.of (plainFor_of_name pn_java_lang_String) ?_
  intro pP eE sS m below methM cC T hx hby hml hret hlk hZ hown hnm eT X
  replace hown : sS.vm.findClass "java/lang/String" = some m.cls := hown
  have N0 := Fr.nil n0
  refine Go.cast (ef_rmEQ0_2 m a b) ?_
  refine Go.st (S' := T.setTop (mkF m 1 #[.val (.ref a), .val (.ref b), .unset] [(.ref a)])) (fun t kt => XS.aloadN X.here hx rfl (hb hby dEQ0_2_0) rfl rfl kt) ?_
  refine Go.st (S' := T.setTop (mkF m 2 #[.val (.ref a), .val (.ref b), .unset] [(.ref b), (.ref a)])) (fun t kt => XS.aloadN X.here hx rfl (hb hby dEQ0_2_1) rfl rfl kt) ?_
  refine Go.st (S' := T.setTop (mkF m 7 #[.val (.ref a), .val (.ref b), .unset] [])) (fun t kt => XT.acmpYes X.here hx rfl (pc0 := 2) (pc' := 7) rfl (hb hby dEQ0_2_2) rfl rfl rfl (XT.aa_ne_t (fun q => hab (Value.ref.inj q))) (by decide) (by decide) kt) ?_
  refine Go.st (S' := T.setTop (mkF m 8 #[.val (.ref a), .val (.ref b), .unset] [(.ref b)])) (fun t kt => XS.aloadN X.here hx rfl (hb hby dEQ0_2_7) rfl rfl kt) ?_
  obtain ⟨T1, X1, e1, st1⟩ := instY X hx hZ hown (hw _ (List.mem_of_getElem? (i := 87) rfl)) eT (Ins.self E2) (g := (mkF m 8 #[.val (.ref a), .val (.ref b), .unset] [(.ref b)])) rfl rfl (hb hby dEQ0_2_8)
  refine Go.st (S' := T1.setTop (mkF m 11 #[.val (.ref a), .val (.ref b), .unset] [(.int (1 : Int32))])) (fun t kt => st1 t kt) ?_
  refine Go.st (S' := T1.setTop (mkF m 14 #[.val (.ref a), .val (.ref b), .unset] [])) (fun t kt => XS.ifNo X1.here hx rfl (hb hby dEQ0_2_11) rfl (XT.i0_eq_f (by decide)) kt) ?_
  refine Go.st (S' := T1.setTop (mkF m 15 #[.val (.ref a), .val (.ref b), .unset] [(.ref b)])) (fun t kt => XS.aloadN X1.here hx rfl (hb hby dEQ0_2_14) rfl rfl kt) ?_
  obtain ⟨T2, X2, e2, st2⟩ := castY X1 hx hZ hown (hw _ (List.mem_of_getElem? (i := 87) rfl)) e1 (Ins.self E2) (g := (mkF m 15 #[.val (.ref a), .val (.ref b), .unset] [(.ref b)])) rfl rfl (hb hby dEQ0_2_15)
  refine Go.st (S' := T2.setTop (mkF m 18 #[.val (.ref a), .val (.ref b), .unset] [(.ref b)])) (fun t kt => st2 t kt) ?_
  refine Go.st (S' := T2.setTop (mkF m 19 #[.val (.ref a), .val (.ref b), .val (.ref b)] [])) (fun t kt => XS.astoreN X2.here hx rfl (hb hby dEQ0_2_18) rfl rfl rfl kt) ?_
  obtain ⟨T3, X3, e3, st3⟩ := getS X2 hx hZ (host := "") hown (hw _ (List.mem_of_getElem? (i := 59) rfl)) Via.refl e2 S_cs (g := (mkF m 19 #[.val (.ref a), .val (.ref b), .val (.ref b)] [])) rfl (hb hby dEQ0_2_19)
  refine Go.st (S' := T3.setTop (mkF m 22 #[.val (.ref a), .val (.ref b), .val (.ref b)] [(.int cs)])) (fun t kt => st3 t kt) ?_
  refine Go.st (S' := T3.setTop (mkF m 25 #[.val (.ref a), .val (.ref b), .val (.ref b)] [])) (fun t kt => XS.ifNo X3.here hx rfl (hb hby dEQ0_2_22) rfl (XT.i0_eq_f hcs) kt) ?_
  refine Go.st (S' := T3.setTop (mkF m 26 #[.val (.ref a), .val (.ref b), .val (.ref b)] [(.ref a)])) (fun t kt => XS.aloadN X3.here hx rfl (hb hby dEQ0_2_25) rfl rfl kt) ?_
  obtain ⟨T4, X4, e4, st4⟩ := getF X3 hx hZ hown (host := "") (Or.inl (hw _ (List.mem_of_getElem? (i := 71) rfl))) Via.refl e3 G1 (g := (mkF m 26 #[.val (.ref a), .val (.ref b), .val (.ref b)] [(.ref a)])) rfl rfl (hb hby dEQ0_2_26)
  refine Go.st (S' := T4.setTop (mkF m 29 #[.val (.ref a), .val (.ref b), .val (.ref b)] [(.int (0 : Int32))])) (fun t kt => st4 t kt) ?_
  refine Go.st (S' := T4.setTop (mkF m 30 #[.val (.ref a), .val (.ref b), .val (.ref b)] [(.ref b), (.int (0 : Int32))])) (fun t kt => XS.aloadN X4.here hx rfl (hb hby dEQ0_2_29) rfl rfl kt) ?_
  obtain ⟨T5, X5, e5, st5⟩ := getF X4 hx hZ hown (host := "") (Or.inl (hw _ (List.mem_of_getElem? (i := 71) rfl))) Via.refl e4 G2 (g := (mkF m 30 #[.val (.ref a), .val (.ref b), .val (.ref b)] [(.ref b), (.int (0 : Int32))])) rfl rfl (hb hby dEQ0_2_30)
  refine Go.st (S' := T5.setTop (mkF m 33 #[.val (.ref a), .val (.ref b), .val (.ref b)] [(.int (0 : Int32)), (.int (0 : Int32))])) (fun t kt => st5 t kt) ?_
  refine Go.st (S' := T5.setTop (mkF m 36 #[.val (.ref a), .val (.ref b), .val (.ref b)] [])) (fun t kt => XS.icmpNo X5.here hx rfl (hb hby dEQ0_2_33) rfl (XT.ii_ne_f (by decide)) kt) ?_
  refine Go.st (S' := T5.setTop (mkF m 37 #[.val (.ref a), .val (.ref b), .val (.ref b)] [(.ref a)])) (fun t kt => XS.aloadN X5.here hx rfl (hb hby dEQ0_2_36) rfl rfl kt) ?_
  obtain ⟨T6, X6, e6, st6⟩ := getF X5 hx hZ hown (host := "") (Or.inl (hw _ (List.mem_of_getElem? (i := 73) rfl))) Via.refl e5 F1 (g := (mkF m 37 #[.val (.ref a), .val (.ref b), .val (.ref b)] [(.ref a)])) rfl rfl (hb hby dEQ0_2_37)
  refine Go.st (S' := T6.setTop (mkF m 40 #[.val (.ref a), .val (.ref b), .val (.ref b)] [(.ref d)])) (fun t kt => st6 t kt) ?_
  refine Go.st (S' := T6.setTop (mkF m 41 #[.val (.ref a), .val (.ref b), .val (.ref b)] [(.ref b), (.ref d)])) (fun t kt => XS.aloadN X6.here hx rfl (hb hby dEQ0_2_40) rfl rfl kt) ?_
  obtain ⟨T7, X7, e7, st7⟩ := getF X6 hx hZ hown (host := "") (Or.inl (hw _ (List.mem_of_getElem? (i := 73) rfl))) Via.refl e6 F2 (g := (mkF m 41 #[.val (.ref a), .val (.ref b), .val (.ref b)] [(.ref b), (.ref d)])) rfl rfl (hb hby dEQ0_2_41)
  refine Go.st (S' := T7.setTop (mkF m 44 #[.val (.ref a), .val (.ref b), .val (.ref b)] [(.ref g), (.ref d)])) (fun t kt => st7 t kt) ?_
  refine Go.stat X7 hx hZ hown (hw _ (List.mem_of_getElem? (i := 88) rfl)) (hw _ (List.mem_of_getElem? (i := 89) rfl)) (hw _ (List.mem_of_getElem? (i := 90) rfl)) (hw _ (List.mem_of_getElem? (i := 91) rfl)) (by decide) (argsL := [(.ref d), (.ref g)]) (rest := []) (rmLE0_2 l Z a0 hw d g kd kg y0 y1 r h0 n0 Z0 V1 V2 hr) e7 rfl (by rw [hml]; rfl) pd___B_B_Z rfl (hb hby dEQ0_2_44) 0 (Nat.le_refl _) (by decide) (by decide) (by decide) (by decide) ?_
  intro v8 T8 L8 X8 hQ8
  obtain ⟨hv8, N8', e8⟩ := hQ8
  subst hv8
  have N8 := Fr.app N0 N8'
  show Go pP eE below _ (T8.setTop (mkF m 47 #[.val (.ref a), .val (.ref b), .val (.ref b)] [(.int r)]))
  by_cases hc47_9 : r = 0
  · refine Go.st (S' := T8.setTop (mkF m 54 #[.val (.ref a), .val (.ref b), .val (.ref b)] [])) (fun t kt => XS.ifYes X8.here hx rfl (pc0 := 47) (pc' := 54) rfl (hb hby dEQ0_2_47) rfl (XT.i0_eq_t hc47_9) (by decide) (by decide) kt) ?_
    refine Go.st (S' := T8.setTop (mkF m 55 #[.val (.ref a), .val (.ref b), .val (.ref b)] [(.int (0 : Int32))])) (fun t kt => XS.iconst X8.here hx rfl (hb hby dEQ0_2_54) kt) ?_
    exact ret_b X8 hx hlk hret (hb hby dEQ0_2_55) (by decide) (by decide) (⟨by rw [hc47_9]; rfl, N8, e8⟩)
  · refine Go.st (S' := T8.setTop (mkF m 50 #[.val (.ref a), .val (.ref b), .val (.ref b)] [])) (fun t kt => XS.ifNo X8.here hx rfl (hb hby dEQ0_2_47) rfl (XT.i0_eq_f hc47_9) kt) ?_
    refine Go.st (S' := T8.setTop (mkF m 51 #[.val (.ref a), .val (.ref b), .val (.ref b)] [(.int (1 : Int32))])) (fun t kt => XS.iconst X8.here hx rfl (hb hby dEQ0_2_50) kt) ?_
    refine Go.st (S' := T8.setTop (mkF m 55 #[.val (.ref a), .val (.ref b), .val (.ref b)] [(.int (1 : Int32))])) (fun t kt => XS.goto X8.here hx rfl (pc0 := 51) (pc' := 55) rfl (hb hby dEQ0_2_51) (by decide) (by decide) kt) ?_
    exact ret_b X8 hx hlk hret (hb hby dEQ0_2_55) (by decide) (by decide) (⟨by rw [own_r01 hr hc47_9]; rfl, N8, e8⟩)
theorem dEQ1_n_0 : decode jdk_42_method_66_code 0 = .ok (.aload_n 0, 1) := by decide +kernel
theorem dEQ1_n_1 : decode jdk_42_method_66_code 1 = .ok (.aload_n 1, 1) := by decide +kernel
theorem dEQ1_n_2 : decode jdk_42_method_66_code 2 = .ok (.if_acmp .ne 5, 3) := by decide +kernel
theorem dEQ1_n_7 : decode jdk_42_method_66_code 7 = .ok (.aload_n 1, 1) := by decide +kernel
theorem dEQ1_n_8 : decode jdk_42_method_66_code 8 = .ok (.instanceof 10, 3) := by decide +kernel
theorem dEQ1_n_11 : decode jdk_42_method_66_code 11 = .ok (.ifCond .eq 43, 3) := by decide +kernel
theorem dEQ1_n_54 : decode jdk_42_method_66_code 54 = .ok (.iconst 0, 1) := by decide +kernel
theorem dEQ1_n_55 : decode jdk_42_method_66_code 55 = .ok (.ireturn, 1) := by decide +kernel
theorem ef_rmEQ1_n (m : MethodId) (a : Addr) : entryFrame m #[(.ref a), .null] 3 = mkF m 0 #[.val (.ref a), .val .null, .unset] [] := by first | exact own_entry rfl | (simp [entryFrame, mkF, argsToLocals, Value.category]; done) | rfl
set_option maxRecDepth 65536 in
set_option maxHeartbeats 40000000 in
theorem rmEQ1_n (l : Launch) (Z : State) (a0 : Array Value) (hw : ∀ d ∈ tables_1, d.before a0 Z = true) (a d : Addr) (kd : ClassId) (x0 : Int32) (r : Int32) (h0 : Heap) (n0 : Nat) (Z0 : n0 ≤ h0.size) (E1 : Exa Z h0 a "java/lang/String") (F1 : Fld Z h0 a "java/lang/String" "value" "[B" (.ref d)) (G1 : Fld Z h0 a "java/lang/String" "coder" "B" (.int (0 : Int32))) (V1 : Arv Z h0 d kd .byte (1 : Int32) [(.int x0)] (.int (0 : Int32))) (cs : Int32) (S_cs : Sta Z h0 "java/lang/String" "COMPACT_STRINGS" "Z" (.int cs)) (hcs : ¬ cs = 0) (hr : r = if (some [x0] : Option (List Int32)) = none then 1 else 0) :
    Pays l (⟨"java/lang/String", "equals", "(Ljava/lang/Object;)Z"⟩ : MethodName) jdk_42_method_66_code 3 (some .boolean) ({ frames := 1, cells := 0, slots := 0, locals := 14 } : Room) Z #[(.ref a), .null] h0 (fun v h L => v = some (.int r) ∧ Fr n0 L ∧ h = h0) := by
  refine Pays.of (plainFor_of_name pn_java_lang_String) ?_
  intro pP eE sS m below methM cC T hx hby hml hret hlk hZ hown hnm eT X
  replace hown : sS.vm.findClass "java/lang/String" = some m.cls := hown
  have N0 := Fr.nil n0
  refine Go.cast (ef_rmEQ1_n m a) ?_
  refine Go.st (S' := T.setTop (mkF m 1 #[.val (.ref a), .val .null, .unset] [(.ref a)])) (fun t kt => XS.aloadN X.here hx rfl (hb hby dEQ1_n_0) rfl rfl kt) ?_
  refine Go.st (S' := T.setTop (mkF m 2 #[.val (.ref a), .val .null, .unset] [.null, (.ref a)])) (fun t kt => XS.aloadN X.here hx rfl (hb hby dEQ1_n_1) rfl rfl kt) ?_
  refine Go.st (S' := T.setTop (mkF m 7 #[.val (.ref a), .val .null, .unset] [])) (fun t kt => XT.acmpYes X.here hx rfl (pc0 := 2) (pc' := 7) rfl (hb hby dEQ1_n_2) rfl rfl rfl (XT.aa_ne_t (by simp)) (by decide) (by decide) kt) ?_
  refine Go.st (S' := T.setTop (mkF m 8 #[.val (.ref a), .val .null, .unset] [.null])) (fun t kt => XS.aloadN X.here hx rfl (hb hby dEQ1_n_7) rfl rfl kt) ?_
  refine Go.st (S' := T.setTop (mkF m 11 #[.val (.ref a), .val .null, .unset] [(.int (0 : Int32))])) (fun t kt => X.instanceofNull hx (g := (mkF m 8 #[.val (.ref a), .val .null, .unset] [.null])) rfl rfl (hb hby dEQ1_n_8) t kt) ?_
  refine Go.st (S' := T.setTop (mkF m 54 #[.val (.ref a), .val .null, .unset] [])) (fun t kt => XS.ifYes X.here hx rfl (pc0 := 11) (pc' := 54) rfl (hb hby dEQ1_n_11) rfl (XT.i0_eq_t (by decide)) (by decide) (by decide) kt) ?_
  refine Go.st (S' := T.setTop (mkF m 55 #[.val (.ref a), .val .null, .unset] [(.int (0 : Int32))])) (fun t kt => XS.iconst X.here hx rfl (hb hby dEQ1_n_54) kt) ?_
  exact ret_b X hx hlk hret (hb hby dEQ1_n_55) (by decide) (by decide) (⟨by rw [hr]; rfl, N0, eT⟩)
theorem dLE1_0_0 : decode jdk_43_method_13_code 0 = .ok (.aload_n 0, 1) := by decide +kernel
theorem dLE1_0_1 : decode jdk_43_method_13_code 1 = .ok (.arraylength, 1) := by decide +kernel
theorem dLE1_0_2 : decode jdk_43_method_13_code 2 = .ok (.aload_n 1, 1) := by decide +kernel
theorem dLE1_0_3 : decode jdk_43_method_13_code 3 = .ok (.arraylength, 1) := by decide +kernel
theorem dLE1_0_4 : decode jdk_43_method_13_code 4 = .ok (.if_icmp .ne 30, 3) := by decide +kernel
theorem dLE1_0_34 : decode jdk_43_method_13_code 34 = .ok (.iconst 0, 1) := by decide +kernel
theorem dLE1_0_35 : decode jdk_43_method_13_code 35 = .ok (.ireturn, 1) := by decide +kernel
theorem ef_rmLE1_0 (m : MethodId) (d : Addr) (g : Addr) : entryFrame m #[(.ref d), (.ref g)] 3 = mkF m 0 #[.val (.ref d), .val (.ref g), .unset] [] := by first | exact own_entry rfl | (simp [entryFrame, mkF, argsToLocals, Value.category]; done) | rfl
set_option maxRecDepth 65536 in
set_option maxHeartbeats 40000000 in
theorem rmLE1_0 (l : Launch) (Z : State) (a0 : Array Value) (hw : ∀ d ∈ tables_1, d.before a0 Z = true) (d g : Addr) (kd kg : ClassId) (x0 : Int32) (r : Int32) (h0 : Heap) (n0 : Nat) (Z0 : n0 ≤ h0.size) (V_d : Arv Z h0 d kd .byte (1 : Int32) [(.int x0)] (.int (0 : Int32))) (V_g : Arv Z h0 g kg .byte (0 : Int32) [] (.int (0 : Int32))) (hr : r = if (some [x0] : Option (List Int32)) = some [] then 1 else 0) :
    Pays l (⟨"java/lang/StringLatin1", "equals", "([B[B)Z"⟩ : MethodName) jdk_43_method_13_code 3 (some .boolean) ({ frames := 0, cells := 0, slots := 0, locals := 0 } : Room) Z #[(.ref d), (.ref g)] h0 (fun v h L => v = some (.int r) ∧ Fr n0 L ∧ h = h0) := by
  refine Pays.of (plainFor_of_name pn_java_lang_StringLatin1) ?_
  intro pP eE sS m below methM cC T hx hby hml hret hlk hZ hown hnm eT X
  replace hown : sS.vm.findClass "java/lang/StringLatin1" = some m.cls := hown
  have N0 := Fr.nil n0
  refine Go.cast (ef_rmLE1_0 m d g) ?_
  refine Go.st (S' := T.setTop (mkF m 1 #[.val (.ref d), .val (.ref g), .unset] [(.ref d)])) (fun t kt => XS.aloadN X.here hx rfl (hb hby dLE1_0_0) rfl rfl kt) ?_
  obtain ⟨cl1, Ar1, q1, S1, M1, H1, G1⟩ := id V_d
  refine Go.st (S' := T.setTop (mkF m 2 #[.val (.ref d), .val (.ref g), .unset] [(.int (1 : Int32))])) (fun t kt => own_alen X hx hZ eT Ar1 (len_of S1 M1) rfl (hb hby dLE1_0_1) t kt) ?_
  refine Go.st (S' := T.setTop (mkF m 3 #[.val (.ref d), .val (.ref g), .unset] [(.ref g), (.int (1 : Int32))])) (fun t kt => XS.aloadN X.here hx rfl (hb hby dLE1_0_2) rfl rfl kt) ?_
  obtain ⟨cl2, Ar2, q2, S2, M2, H2, G2⟩ := id V_g
  refine Go.st (S' := T.setTop (mkF m 4 #[.val (.ref d), .val (.ref g), .unset] [(.int (0 : Int32)), (.int (1 : Int32))])) (fun t kt => own_alen X hx hZ eT Ar2 (len_of S2 M2) rfl (hb hby dLE1_0_3) t kt) ?_
  refine Go.st (S' := T.setTop (mkF m 34 #[.val (.ref d), .val (.ref g), .unset] [])) (fun t kt => XS.icmpYes X.here hx rfl (pc0 := 4) (pc' := 34) rfl (hb hby dLE1_0_4) rfl (XT.ii_ne_t (by decide)) (by decide) (by decide) kt) ?_
  refine Go.st (S' := T.setTop (mkF m 35 #[.val (.ref d), .val (.ref g), .unset] [(.int (0 : Int32))])) (fun t kt => XS.iconst X.here hx rfl (hb hby dLE1_0_34) kt) ?_
  exact ret_b X hx hlk hret (hb hby dLE1_0_35) (by decide) (by decide) (⟨by show some (Value.int (0 : Int32)) = some (.int r); rw [hr]; simp, N0, eT⟩)
theorem dEQ1_0_0 : decode jdk_42_method_66_code 0 = .ok (.aload_n 0, 1) := by decide +kernel
theorem dEQ1_0_1 : decode jdk_42_method_66_code 1 = .ok (.aload_n 1, 1) := by decide +kernel
theorem dEQ1_0_2 : decode jdk_42_method_66_code 2 = .ok (.if_acmp .ne 5, 3) := by decide +kernel
theorem dEQ1_0_7 : decode jdk_42_method_66_code 7 = .ok (.aload_n 1, 1) := by decide +kernel
theorem dEQ1_0_8 : decode jdk_42_method_66_code 8 = .ok (.instanceof 10, 3) := by decide +kernel
theorem dEQ1_0_11 : decode jdk_42_method_66_code 11 = .ok (.ifCond .eq 43, 3) := by decide +kernel
theorem dEQ1_0_14 : decode jdk_42_method_66_code 14 = .ok (.aload_n 1, 1) := by decide +kernel
theorem dEQ1_0_15 : decode jdk_42_method_66_code 15 = .ok (.checkcast 10, 3) := by decide +kernel
theorem dEQ1_0_18 : decode jdk_42_method_66_code 18 = .ok (.astore_n 2, 1) := by decide +kernel
theorem dEQ1_0_19 : decode jdk_42_method_66_code 19 = .ok (.getstatic 38, 3) := by decide +kernel
theorem dEQ1_0_22 : decode jdk_42_method_66_code 22 = .ok (.ifCond .eq 14, 3) := by decide +kernel
theorem dEQ1_0_25 : decode jdk_42_method_66_code 25 = .ok (.aload_n 0, 1) := by decide +kernel
theorem dEQ1_0_26 : decode jdk_42_method_66_code 26 = .ok (.getfield 15, 3) := by decide +kernel
theorem dEQ1_0_29 : decode jdk_42_method_66_code 29 = .ok (.aload_n 2, 1) := by decide +kernel
theorem dEQ1_0_30 : decode jdk_42_method_66_code 30 = .ok (.getfield 15, 3) := by decide +kernel
theorem dEQ1_0_33 : decode jdk_42_method_66_code 33 = .ok (.if_icmp .ne 21, 3) := by decide +kernel
theorem dEQ1_0_36 : decode jdk_42_method_66_code 36 = .ok (.aload_n 0, 1) := by decide +kernel
theorem dEQ1_0_37 : decode jdk_42_method_66_code 37 = .ok (.getfield 9, 3) := by decide +kernel
theorem dEQ1_0_40 : decode jdk_42_method_66_code 40 = .ok (.aload_n 2, 1) := by decide +kernel
theorem dEQ1_0_41 : decode jdk_42_method_66_code 41 = .ok (.getfield 9, 3) := by decide +kernel
theorem dEQ1_0_44 : decode jdk_42_method_66_code 44 = .ok (.invokestatic 541, 3) := by decide +kernel
theorem dEQ1_0_47 : decode jdk_42_method_66_code 47 = .ok (.ifCond .eq 7, 3) := by decide +kernel
theorem dEQ1_0_50 : decode jdk_42_method_66_code 50 = .ok (.iconst 1, 1) := by decide +kernel
theorem dEQ1_0_51 : decode jdk_42_method_66_code 51 = .ok (.goto 4, 3) := by decide +kernel
theorem dEQ1_0_54 : decode jdk_42_method_66_code 54 = .ok (.iconst 0, 1) := by decide +kernel
theorem dEQ1_0_55 : decode jdk_42_method_66_code 55 = .ok (.ireturn, 1) := by decide +kernel
theorem ef_rmEQ1_0 (m : MethodId) (a : Addr) (b : Addr) : entryFrame m #[(.ref a), (.ref b)] 3 = mkF m 0 #[.val (.ref a), .val (.ref b), .unset] [] := by first | exact own_entry rfl | (simp [entryFrame, mkF, argsToLocals, Value.category]; done) | rfl
set_option maxRecDepth 65536 in
set_option maxHeartbeats 40000000 in
theorem rmEQ1_0 (l : Launch) (Z : State) (a0 : Array Value) (hw : ∀ d ∈ tables_1, d.before a0 Z = true) (a d b g : Addr) (kd kg : ClassId) (x0 : Int32) (r : Int32) (h0 : Heap) (n0 : Nat) (Z0 : n0 ≤ h0.size) (E1 : Exa Z h0 a "java/lang/String") (F1 : Fld Z h0 a "java/lang/String" "value" "[B" (.ref d)) (G1 : Fld Z h0 a "java/lang/String" "coder" "B" (.int (0 : Int32))) (V1 : Arv Z h0 d kd .byte (1 : Int32) [(.int x0)] (.int (0 : Int32))) (E2 : Exa Z h0 b "java/lang/String") (F2 : Fld Z h0 b "java/lang/String" "value" "[B" (.ref g)) (G2 : Fld Z h0 b "java/lang/String" "coder" "B" (.int (0 : Int32))) (V2 : Arv Z h0 g kg .byte (0 : Int32) [] (.int (0 : Int32))) (hab : a ≠ b) (cs : Int32) (S_cs : Sta Z h0 "java/lang/String" "COMPACT_STRINGS" "Z" (.int cs)) (hcs : ¬ cs = 0) (hr : r = if (some [x0] : Option (List Int32)) = some [] then 1 else 0) :
    Pays l (⟨"java/lang/String", "equals", "(Ljava/lang/Object;)Z"⟩ : MethodName) jdk_42_method_66_code 3 (some .boolean) ({ frames := 1, cells := 0, slots := 0, locals := 14 } : Room) Z #[(.ref a), (.ref b)] h0 (fun v h L => v = some (.int r) ∧ Fr n0 L ∧ h = h0) := by
  refine Pays.of (plainFor_of_name pn_java_lang_String) ?_
  intro pP eE sS m below methM cC T hx hby hml hret hlk hZ hown hnm eT X
  replace hown : sS.vm.findClass "java/lang/String" = some m.cls := hown
  have N0 := Fr.nil n0
  refine Go.cast (ef_rmEQ1_0 m a b) ?_
  refine Go.st (S' := T.setTop (mkF m 1 #[.val (.ref a), .val (.ref b), .unset] [(.ref a)])) (fun t kt => XS.aloadN X.here hx rfl (hb hby dEQ1_0_0) rfl rfl kt) ?_
  refine Go.st (S' := T.setTop (mkF m 2 #[.val (.ref a), .val (.ref b), .unset] [(.ref b), (.ref a)])) (fun t kt => XS.aloadN X.here hx rfl (hb hby dEQ1_0_1) rfl rfl kt) ?_
  refine Go.st (S' := T.setTop (mkF m 7 #[.val (.ref a), .val (.ref b), .unset] [])) (fun t kt => XT.acmpYes X.here hx rfl (pc0 := 2) (pc' := 7) rfl (hb hby dEQ1_0_2) rfl rfl rfl (XT.aa_ne_t (fun q => hab (Value.ref.inj q))) (by decide) (by decide) kt) ?_
  refine Go.st (S' := T.setTop (mkF m 8 #[.val (.ref a), .val (.ref b), .unset] [(.ref b)])) (fun t kt => XS.aloadN X.here hx rfl (hb hby dEQ1_0_7) rfl rfl kt) ?_
  obtain ⟨T1, X1, e1, st1⟩ := instY X hx hZ hown (hw _ (List.mem_of_getElem? (i := 87) rfl)) eT (Ins.self E2) (g := (mkF m 8 #[.val (.ref a), .val (.ref b), .unset] [(.ref b)])) rfl rfl (hb hby dEQ1_0_8)
  refine Go.st (S' := T1.setTop (mkF m 11 #[.val (.ref a), .val (.ref b), .unset] [(.int (1 : Int32))])) (fun t kt => st1 t kt) ?_
  refine Go.st (S' := T1.setTop (mkF m 14 #[.val (.ref a), .val (.ref b), .unset] [])) (fun t kt => XS.ifNo X1.here hx rfl (hb hby dEQ1_0_11) rfl (XT.i0_eq_f (by decide)) kt) ?_
  refine Go.st (S' := T1.setTop (mkF m 15 #[.val (.ref a), .val (.ref b), .unset] [(.ref b)])) (fun t kt => XS.aloadN X1.here hx rfl (hb hby dEQ1_0_14) rfl rfl kt) ?_
  obtain ⟨T2, X2, e2, st2⟩ := castY X1 hx hZ hown (hw _ (List.mem_of_getElem? (i := 87) rfl)) e1 (Ins.self E2) (g := (mkF m 15 #[.val (.ref a), .val (.ref b), .unset] [(.ref b)])) rfl rfl (hb hby dEQ1_0_15)
  refine Go.st (S' := T2.setTop (mkF m 18 #[.val (.ref a), .val (.ref b), .unset] [(.ref b)])) (fun t kt => st2 t kt) ?_
  refine Go.st (S' := T2.setTop (mkF m 19 #[.val (.ref a), .val (.ref b), .val (.ref b)] [])) (fun t kt => XS.astoreN X2.here hx rfl (hb hby dEQ1_0_18) rfl rfl rfl kt) ?_
  obtain ⟨T3, X3, e3, st3⟩ := getS X2 hx hZ (host := "") hown (hw _ (List.mem_of_getElem? (i := 59) rfl)) Via.refl e2 S_cs (g := (mkF m 19 #[.val (.ref a), .val (.ref b), .val (.ref b)] [])) rfl (hb hby dEQ1_0_19)
  refine Go.st (S' := T3.setTop (mkF m 22 #[.val (.ref a), .val (.ref b), .val (.ref b)] [(.int cs)])) (fun t kt => st3 t kt) ?_
  refine Go.st (S' := T3.setTop (mkF m 25 #[.val (.ref a), .val (.ref b), .val (.ref b)] [])) (fun t kt => XS.ifNo X3.here hx rfl (hb hby dEQ1_0_22) rfl (XT.i0_eq_f hcs) kt) ?_
  refine Go.st (S' := T3.setTop (mkF m 26 #[.val (.ref a), .val (.ref b), .val (.ref b)] [(.ref a)])) (fun t kt => XS.aloadN X3.here hx rfl (hb hby dEQ1_0_25) rfl rfl kt) ?_
  obtain ⟨T4, X4, e4, st4⟩ := getF X3 hx hZ hown (host := "") (Or.inl (hw _ (List.mem_of_getElem? (i := 71) rfl))) Via.refl e3 G1 (g := (mkF m 26 #[.val (.ref a), .val (.ref b), .val (.ref b)] [(.ref a)])) rfl rfl (hb hby dEQ1_0_26)
  refine Go.st (S' := T4.setTop (mkF m 29 #[.val (.ref a), .val (.ref b), .val (.ref b)] [(.int (0 : Int32))])) (fun t kt => st4 t kt) ?_
  refine Go.st (S' := T4.setTop (mkF m 30 #[.val (.ref a), .val (.ref b), .val (.ref b)] [(.ref b), (.int (0 : Int32))])) (fun t kt => XS.aloadN X4.here hx rfl (hb hby dEQ1_0_29) rfl rfl kt) ?_
  obtain ⟨T5, X5, e5, st5⟩ := getF X4 hx hZ hown (host := "") (Or.inl (hw _ (List.mem_of_getElem? (i := 71) rfl))) Via.refl e4 G2 (g := (mkF m 30 #[.val (.ref a), .val (.ref b), .val (.ref b)] [(.ref b), (.int (0 : Int32))])) rfl rfl (hb hby dEQ1_0_30)
  refine Go.st (S' := T5.setTop (mkF m 33 #[.val (.ref a), .val (.ref b), .val (.ref b)] [(.int (0 : Int32)), (.int (0 : Int32))])) (fun t kt => st5 t kt) ?_
  refine Go.st (S' := T5.setTop (mkF m 36 #[.val (.ref a), .val (.ref b), .val (.ref b)] [])) (fun t kt => XS.icmpNo X5.here hx rfl (hb hby dEQ1_0_33) rfl (XT.ii_ne_f (by decide)) kt) ?_
  refine Go.st (S' := T5.setTop (mkF m 37 #[.val (.ref a), .val (.ref b), .val (.ref b)] [(.ref a)])) (fun t kt => XS.aloadN X5.here hx rfl (hb hby dEQ1_0_36) rfl rfl kt) ?_
  obtain ⟨T6, X6, e6, st6⟩ := getF X5 hx hZ hown (host := "") (Or.inl (hw _ (List.mem_of_getElem? (i := 73) rfl))) Via.refl e5 F1 (g := (mkF m 37 #[.val (.ref a), .val (.ref b), .val (.ref b)] [(.ref a)])) rfl rfl (hb hby dEQ1_0_37)
  refine Go.st (S' := T6.setTop (mkF m 40 #[.val (.ref a), .val (.ref b), .val (.ref b)] [(.ref d)])) (fun t kt => st6 t kt) ?_
  refine Go.st (S' := T6.setTop (mkF m 41 #[.val (.ref a), .val (.ref b), .val (.ref b)] [(.ref b), (.ref d)])) (fun t kt => XS.aloadN X6.here hx rfl (hb hby dEQ1_0_40) rfl rfl kt) ?_
  obtain ⟨T7, X7, e7, st7⟩ := getF X6 hx hZ hown (host := "") (Or.inl (hw _ (List.mem_of_getElem? (i := 73) rfl))) Via.refl e6 F2 (g := (mkF m 41 #[.val (.ref a), .val (.ref b), .val (.ref b)] [(.ref b), (.ref d)])) rfl rfl (hb hby dEQ1_0_41)
  refine Go.st (S' := T7.setTop (mkF m 44 #[.val (.ref a), .val (.ref b), .val (.ref b)] [(.ref g), (.ref d)])) (fun t kt => st7 t kt) ?_
  refine Go.stat X7 hx hZ hown (hw _ (List.mem_of_getElem? (i := 88) rfl)) (hw _ (List.mem_of_getElem? (i := 89) rfl)) (hw _ (List.mem_of_getElem? (i := 90) rfl)) (hw _ (List.mem_of_getElem? (i := 91) rfl)) (by decide) (argsL := [(.ref d), (.ref g)]) (rest := []) (rmLE1_0 l Z a0 hw d g kd kg x0 r h0 n0 Z0 V1 V2 hr) e7 rfl (by rw [hml]; rfl) pd___B_B_Z rfl (hb hby dEQ1_0_44) 0 (Nat.le_refl _) (by decide) (by decide) (by decide) (by decide) ?_
  intro v8 T8 L8 X8 hQ8
  obtain ⟨hv8, N8', e8⟩ := hQ8
  subst hv8
  have N8 := Fr.app N0 N8'
  show Go pP eE below _ (T8.setTop (mkF m 47 #[.val (.ref a), .val (.ref b), .val (.ref b)] [(.int r)]))
  by_cases hc47_9 : r = 0
  · refine Go.st (S' := T8.setTop (mkF m 54 #[.val (.ref a), .val (.ref b), .val (.ref b)] [])) (fun t kt => XS.ifYes X8.here hx rfl (pc0 := 47) (pc' := 54) rfl (hb hby dEQ1_0_47) rfl (XT.i0_eq_t hc47_9) (by decide) (by decide) kt) ?_
    refine Go.st (S' := T8.setTop (mkF m 55 #[.val (.ref a), .val (.ref b), .val (.ref b)] [(.int (0 : Int32))])) (fun t kt => XS.iconst X8.here hx rfl (hb hby dEQ1_0_54) kt) ?_
    exact ret_b X8 hx hlk hret (hb hby dEQ1_0_55) (by decide) (by decide) (⟨by rw [hc47_9]; rfl, N8, e8⟩)
  · refine Go.st (S' := T8.setTop (mkF m 50 #[.val (.ref a), .val (.ref b), .val (.ref b)] [])) (fun t kt => XS.ifNo X8.here hx rfl (hb hby dEQ1_0_47) rfl (XT.i0_eq_f hc47_9) kt) ?_
    refine Go.st (S' := T8.setTop (mkF m 51 #[.val (.ref a), .val (.ref b), .val (.ref b)] [(.int (1 : Int32))])) (fun t kt => XS.iconst X8.here hx rfl (hb hby dEQ1_0_50) kt) ?_
    refine Go.st (S' := T8.setTop (mkF m 55 #[.val (.ref a), .val (.ref b), .val (.ref b)] [(.int (1 : Int32))])) (fun t kt => XS.goto X8.here hx rfl (pc0 := 51) (pc' := 55) rfl (hb hby dEQ1_0_51) (by decide) (by decide) kt) ?_
    exact ret_b X8 hx hlk hret (hb hby dEQ1_0_55) (by decide) (by decide) (⟨by rw [own_r01 hr hc47_9]; rfl, N8, e8⟩)
theorem dLE1_1_0 : decode jdk_43_method_13_code 0 = .ok (.aload_n 0, 1) := by decide +kernel
theorem dLE1_1_1 : decode jdk_43_method_13_code 1 = .ok (.arraylength, 1) := by decide +kernel
theorem dLE1_1_2 : decode jdk_43_method_13_code 2 = .ok (.aload_n 1, 1) := by decide +kernel
theorem dLE1_1_3 : decode jdk_43_method_13_code 3 = .ok (.arraylength, 1) := by decide +kernel
theorem dLE1_1_4 : decode jdk_43_method_13_code 4 = .ok (.if_icmp .ne 30, 3) := by decide +kernel
theorem dLE1_1_7 : decode jdk_43_method_13_code 7 = .ok (.iconst 0, 1) := by decide +kernel
theorem dLE1_1_8 : decode jdk_43_method_13_code 8 = .ok (.istore_n 2, 1) := by decide +kernel
theorem dLE1_1_9 : decode jdk_43_method_13_code 9 = .ok (.iload_n 2, 1) := by decide +kernel
theorem dLE1_1_10 : decode jdk_43_method_13_code 10 = .ok (.aload_n 0, 1) := by decide +kernel
theorem dLE1_1_11 : decode jdk_43_method_13_code 11 = .ok (.arraylength, 1) := by decide +kernel
theorem dLE1_1_12 : decode jdk_43_method_13_code 12 = .ok (.if_icmp .ge 20, 3) := by decide +kernel
theorem dLE1_1_15 : decode jdk_43_method_13_code 15 = .ok (.aload_n 0, 1) := by decide +kernel
theorem dLE1_1_16 : decode jdk_43_method_13_code 16 = .ok (.iload_n 2, 1) := by decide +kernel
theorem dLE1_1_17 : decode jdk_43_method_13_code 17 = .ok (.baload, 1) := by decide +kernel
theorem dLE1_1_18 : decode jdk_43_method_13_code 18 = .ok (.aload_n 1, 1) := by decide +kernel
theorem dLE1_1_19 : decode jdk_43_method_13_code 19 = .ok (.iload_n 2, 1) := by decide +kernel
theorem dLE1_1_20 : decode jdk_43_method_13_code 20 = .ok (.baload, 1) := by decide +kernel
theorem dLE1_1_21 : decode jdk_43_method_13_code 21 = .ok (.if_icmp .eq 5, 3) := by decide +kernel
theorem dLE1_1_24 : decode jdk_43_method_13_code 24 = .ok (.iconst 0, 1) := by decide +kernel
theorem dLE1_1_25 : decode jdk_43_method_13_code 25 = .ok (.ireturn, 1) := by decide +kernel
theorem dLE1_1_26 : decode jdk_43_method_13_code 26 = .ok (.iinc 2 1, 3) := by decide +kernel
theorem dLE1_1_29 : decode jdk_43_method_13_code 29 = .ok (.goto (-20), 3) := by decide +kernel
theorem dLE1_1_32 : decode jdk_43_method_13_code 32 = .ok (.iconst 1, 1) := by decide +kernel
theorem dLE1_1_33 : decode jdk_43_method_13_code 33 = .ok (.ireturn, 1) := by decide +kernel
theorem ef_rmLE1_1 (m : MethodId) (d : Addr) (g : Addr) : entryFrame m #[(.ref d), (.ref g)] 3 = mkF m 0 #[.val (.ref d), .val (.ref g), .unset] [] := by first | exact own_entry rfl | (simp [entryFrame, mkF, argsToLocals, Value.category]; done) | rfl
set_option maxRecDepth 65536 in
set_option maxHeartbeats 40000000 in
theorem rmLE1_1 (l : Launch) (Z : State) (a0 : Array Value) (hw : ∀ d ∈ tables_1, d.before a0 Z = true) (d g : Addr) (kd kg : ClassId) (x0 y0 : Int32) (r : Int32) (h0 : Heap) (n0 : Nat) (Z0 : n0 ≤ h0.size) (V_d : Arv Z h0 d kd .byte (1 : Int32) [(.int x0)] (.int (0 : Int32))) (V_g : Arv Z h0 g kg .byte (1 : Int32) [(.int y0)] (.int (0 : Int32))) (hr : r = if (some [x0] : Option (List Int32)) = some [y0] then 1 else 0) :
    Pays l (⟨"java/lang/StringLatin1", "equals", "([B[B)Z"⟩ : MethodName) jdk_43_method_13_code 3 (some .boolean) ({ frames := 0, cells := 0, slots := 0, locals := 0 } : Room) Z #[(.ref d), (.ref g)] h0 (fun v h L => v = some (.int r) ∧ Fr n0 L ∧ h = h0) := by
  refine Pays.of (plainFor_of_name pn_java_lang_StringLatin1) ?_
  intro pP eE sS m below methM cC T hx hby hml hret hlk hZ hown hnm eT X
  replace hown : sS.vm.findClass "java/lang/StringLatin1" = some m.cls := hown
  have N0 := Fr.nil n0
  refine Go.cast (ef_rmLE1_1 m d g) ?_
  refine Go.st (S' := T.setTop (mkF m 1 #[.val (.ref d), .val (.ref g), .unset] [(.ref d)])) (fun t kt => XS.aloadN X.here hx rfl (hb hby dLE1_1_0) rfl rfl kt) ?_
  obtain ⟨cl1, Ar1, q1, S1, M1, H1, G1⟩ := id V_d
  refine Go.st (S' := T.setTop (mkF m 2 #[.val (.ref d), .val (.ref g), .unset] [(.int (1 : Int32))])) (fun t kt => own_alen X hx hZ eT Ar1 (len_of S1 M1) rfl (hb hby dLE1_1_1) t kt) ?_
  refine Go.st (S' := T.setTop (mkF m 3 #[.val (.ref d), .val (.ref g), .unset] [(.ref g), (.int (1 : Int32))])) (fun t kt => XS.aloadN X.here hx rfl (hb hby dLE1_1_2) rfl rfl kt) ?_
  obtain ⟨cl2, Ar2, q2, S2, M2, H2, G2⟩ := id V_g
  refine Go.st (S' := T.setTop (mkF m 4 #[.val (.ref d), .val (.ref g), .unset] [(.int (1 : Int32)), (.int (1 : Int32))])) (fun t kt => own_alen X hx hZ eT Ar2 (len_of S2 M2) rfl (hb hby dLE1_1_3) t kt) ?_
  refine Go.st (S' := T.setTop (mkF m 7 #[.val (.ref d), .val (.ref g), .unset] [])) (fun t kt => XS.icmpNo X.here hx rfl (hb hby dLE1_1_4) rfl (XT.ii_ne_f (by decide)) kt) ?_
  refine Go.st (S' := T.setTop (mkF m 8 #[.val (.ref d), .val (.ref g), .unset] [(.int (0 : Int32))])) (fun t kt => XS.iconst X.here hx rfl (hb hby dLE1_1_7) kt) ?_
  refine Go.st (S' := T.setTop (mkF m 9 #[.val (.ref d), .val (.ref g), .val (.int (0 : Int32))] [])) (fun t kt => XS.istoreN X.here hx rfl (hb hby dLE1_1_8) rfl rfl kt) ?_
  refine Go.st (S' := T.setTop (mkF m 10 #[.val (.ref d), .val (.ref g), .val (.int (0 : Int32))] [(.int (0 : Int32))])) (fun t kt => XS.iloadN X.here hx rfl (hb hby dLE1_1_9) rfl kt) ?_
  refine Go.st (S' := T.setTop (mkF m 11 #[.val (.ref d), .val (.ref g), .val (.int (0 : Int32))] [(.ref d), (.int (0 : Int32))])) (fun t kt => XS.aloadN X.here hx rfl (hb hby dLE1_1_10) rfl rfl kt) ?_
  obtain ⟨cl3, Ar3, q3, S3, M3, H3, G3⟩ := id V_d
  refine Go.st (S' := T.setTop (mkF m 12 #[.val (.ref d), .val (.ref g), .val (.int (0 : Int32))] [(.int (1 : Int32)), (.int (0 : Int32))])) (fun t kt => own_alen X hx hZ eT Ar3 (len_of S3 M3) rfl (hb hby dLE1_1_11) t kt) ?_
  refine Go.st (S' := T.setTop (mkF m 15 #[.val (.ref d), .val (.ref g), .val (.int (0 : Int32))] [])) (fun t kt => XS.icmpNo X.here hx rfl (hb hby dLE1_1_12) rfl (XT.ii_ge_f (by decide)) kt) ?_
  refine Go.st (S' := T.setTop (mkF m 16 #[.val (.ref d), .val (.ref g), .val (.int (0 : Int32))] [(.ref d)])) (fun t kt => XS.aloadN X.here hx rfl (hb hby dLE1_1_15) rfl rfl kt) ?_
  refine Go.st (S' := T.setTop (mkF m 17 #[.val (.ref d), .val (.ref g), .val (.int (0 : Int32))] [(.int (0 : Int32)), (.ref d)])) (fun t kt => XS.iloadN X.here hx rfl (hb hby dLE1_1_16) rfl kt) ?_
  obtain ⟨cl4, Ar4, q4, S4, M4, H4, G4⟩ := id V_d
  refine Go.st (S' := T.setTop (mkF m 18 #[.val (.ref d), .val (.ref g), .val (.int (0 : Int32))] [(.int x0)])) (fun t kt => X.baloadBytes hx (j := (0 : Int32)) (v := (.int x0)) (by rw [eT]; exact Ar4.1) (State.isArrayOf_alike hZ.alike Ar4.2.1) Ar4.2.2 (inb_of S4 ⟨by decide, by decide⟩) (Has.at H4 (inb_of S4 ⟨by decide, by decide⟩) rfl) (g := (mkF m 17 #[.val (.ref d), .val (.ref g), .val (.int (0 : Int32))] [(.int (0 : Int32)), (.ref d)])) rfl rfl (hb hby dLE1_1_17) t kt) ?_
  refine Go.st (S' := T.setTop (mkF m 19 #[.val (.ref d), .val (.ref g), .val (.int (0 : Int32))] [(.ref g), (.int x0)])) (fun t kt => XS.aloadN X.here hx rfl (hb hby dLE1_1_18) rfl rfl kt) ?_
  refine Go.st (S' := T.setTop (mkF m 20 #[.val (.ref d), .val (.ref g), .val (.int (0 : Int32))] [(.int (0 : Int32)), (.ref g), (.int x0)])) (fun t kt => XS.iloadN X.here hx rfl (hb hby dLE1_1_19) rfl kt) ?_
  obtain ⟨cl5, Ar5, q5, S5, M5, H5, G5⟩ := id V_g
  refine Go.st (S' := T.setTop (mkF m 21 #[.val (.ref d), .val (.ref g), .val (.int (0 : Int32))] [(.int y0), (.int x0)])) (fun t kt => X.baloadBytes hx (j := (0 : Int32)) (v := (.int y0)) (by rw [eT]; exact Ar5.1) (State.isArrayOf_alike hZ.alike Ar5.2.1) Ar5.2.2 (inb_of S5 ⟨by decide, by decide⟩) (Has.at H5 (inb_of S5 ⟨by decide, by decide⟩) rfl) (g := (mkF m 20 #[.val (.ref d), .val (.ref g), .val (.int (0 : Int32))] [(.int (0 : Int32)), (.ref g), (.int x0)])) rfl rfl (hb hby dLE1_1_20) t kt) ?_
  by_cases hc21_6 : x0 = y0
  · refine Go.st (S' := T.setTop (mkF m 26 #[.val (.ref d), .val (.ref g), .val (.int (0 : Int32))] [])) (fun t kt => XS.icmpYes X.here hx rfl (pc0 := 21) (pc' := 26) rfl (hb hby dLE1_1_21) rfl (XT.ii_eq_t hc21_6) (by decide) (by decide) kt) ?_
    refine Go.st (S' := T.setTop (mkF m 29 #[.val (.ref d), .val (.ref g), .val (.int (1 : Int32))] [])) (fun t kt => XT.iincV X.here hx rfl (1 : Int32) (hb hby dLE1_1_26) (by decide) rfl rfl kt) ?_
    refine Go.st (S' := T.setTop (mkF m 9 #[.val (.ref d), .val (.ref g), .val (.int (1 : Int32))] [])) (fun t kt => XS.goto X.here hx rfl (pc0 := 29) (pc' := 9) rfl (hb hby dLE1_1_29) (by decide) (by decide) kt) ?_
    refine Go.st (S' := T.setTop (mkF m 10 #[.val (.ref d), .val (.ref g), .val (.int (1 : Int32))] [(.int (1 : Int32))])) (fun t kt => XS.iloadN X.here hx rfl (hb hby dLE1_1_9) rfl kt) ?_
    refine Go.st (S' := T.setTop (mkF m 11 #[.val (.ref d), .val (.ref g), .val (.int (1 : Int32))] [(.ref d), (.int (1 : Int32))])) (fun t kt => XS.aloadN X.here hx rfl (hb hby dLE1_1_10) rfl rfl kt) ?_
    obtain ⟨cl7, Ar7, q7, S7, M7, H7, G7⟩ := id V_d
    refine Go.st (S' := T.setTop (mkF m 12 #[.val (.ref d), .val (.ref g), .val (.int (1 : Int32))] [(.int (1 : Int32)), (.int (1 : Int32))])) (fun t kt => own_alen X hx hZ eT Ar7 (len_of S7 M7) rfl (hb hby dLE1_1_11) t kt) ?_
    refine Go.st (S' := T.setTop (mkF m 32 #[.val (.ref d), .val (.ref g), .val (.int (1 : Int32))] [])) (fun t kt => XS.icmpYes X.here hx rfl (pc0 := 12) (pc' := 32) rfl (hb hby dLE1_1_12) rfl (XT.ii_ge_t (by decide)) (by decide) (by decide) kt) ?_
    refine Go.st (S' := T.setTop (mkF m 33 #[.val (.ref d), .val (.ref g), .val (.int (1 : Int32))] [(.int (1 : Int32))])) (fun t kt => XS.iconst X.here hx rfl (hb hby dLE1_1_32) kt) ?_
    exact ret_b X hx hlk hret (hb hby dLE1_1_33) (by decide) (by decide) (⟨by show some (Value.int (1 : Int32)) = some (.int r); rw [hr]; simp [hc21_6], N0, eT⟩)
  · refine Go.st (S' := T.setTop (mkF m 24 #[.val (.ref d), .val (.ref g), .val (.int (0 : Int32))] [])) (fun t kt => XS.icmpNo X.here hx rfl (hb hby dLE1_1_21) rfl (XT.ii_eq_f hc21_6) kt) ?_
    refine Go.st (S' := T.setTop (mkF m 25 #[.val (.ref d), .val (.ref g), .val (.int (0 : Int32))] [(.int (0 : Int32))])) (fun t kt => XS.iconst X.here hx rfl (hb hby dLE1_1_24) kt) ?_
    exact ret_b X hx hlk hret (hb hby dLE1_1_25) (by decide) (by decide) (⟨by show some (Value.int (0 : Int32)) = some (.int r); rw [hr]; simp [hc21_6], N0, eT⟩)
theorem dEQ1_1_0 : decode jdk_42_method_66_code 0 = .ok (.aload_n 0, 1) := by decide +kernel
theorem dEQ1_1_1 : decode jdk_42_method_66_code 1 = .ok (.aload_n 1, 1) := by decide +kernel
theorem dEQ1_1_2 : decode jdk_42_method_66_code 2 = .ok (.if_acmp .ne 5, 3) := by decide +kernel
theorem dEQ1_1_7 : decode jdk_42_method_66_code 7 = .ok (.aload_n 1, 1) := by decide +kernel
theorem dEQ1_1_8 : decode jdk_42_method_66_code 8 = .ok (.instanceof 10, 3) := by decide +kernel
theorem dEQ1_1_11 : decode jdk_42_method_66_code 11 = .ok (.ifCond .eq 43, 3) := by decide +kernel
theorem dEQ1_1_14 : decode jdk_42_method_66_code 14 = .ok (.aload_n 1, 1) := by decide +kernel
theorem dEQ1_1_15 : decode jdk_42_method_66_code 15 = .ok (.checkcast 10, 3) := by decide +kernel
theorem dEQ1_1_18 : decode jdk_42_method_66_code 18 = .ok (.astore_n 2, 1) := by decide +kernel
theorem dEQ1_1_19 : decode jdk_42_method_66_code 19 = .ok (.getstatic 38, 3) := by decide +kernel
theorem dEQ1_1_22 : decode jdk_42_method_66_code 22 = .ok (.ifCond .eq 14, 3) := by decide +kernel
theorem dEQ1_1_25 : decode jdk_42_method_66_code 25 = .ok (.aload_n 0, 1) := by decide +kernel
theorem dEQ1_1_26 : decode jdk_42_method_66_code 26 = .ok (.getfield 15, 3) := by decide +kernel
theorem dEQ1_1_29 : decode jdk_42_method_66_code 29 = .ok (.aload_n 2, 1) := by decide +kernel
theorem dEQ1_1_30 : decode jdk_42_method_66_code 30 = .ok (.getfield 15, 3) := by decide +kernel
theorem dEQ1_1_33 : decode jdk_42_method_66_code 33 = .ok (.if_icmp .ne 21, 3) := by decide +kernel
theorem dEQ1_1_36 : decode jdk_42_method_66_code 36 = .ok (.aload_n 0, 1) := by decide +kernel
theorem dEQ1_1_37 : decode jdk_42_method_66_code 37 = .ok (.getfield 9, 3) := by decide +kernel
theorem dEQ1_1_40 : decode jdk_42_method_66_code 40 = .ok (.aload_n 2, 1) := by decide +kernel
theorem dEQ1_1_41 : decode jdk_42_method_66_code 41 = .ok (.getfield 9, 3) := by decide +kernel
theorem dEQ1_1_44 : decode jdk_42_method_66_code 44 = .ok (.invokestatic 541, 3) := by decide +kernel
theorem dEQ1_1_47 : decode jdk_42_method_66_code 47 = .ok (.ifCond .eq 7, 3) := by decide +kernel
theorem dEQ1_1_50 : decode jdk_42_method_66_code 50 = .ok (.iconst 1, 1) := by decide +kernel
theorem dEQ1_1_51 : decode jdk_42_method_66_code 51 = .ok (.goto 4, 3) := by decide +kernel
theorem dEQ1_1_54 : decode jdk_42_method_66_code 54 = .ok (.iconst 0, 1) := by decide +kernel
theorem dEQ1_1_55 : decode jdk_42_method_66_code 55 = .ok (.ireturn, 1) := by decide +kernel
theorem ef_rmEQ1_1 (m : MethodId) (a : Addr) (b : Addr) : entryFrame m #[(.ref a), (.ref b)] 3 = mkF m 0 #[.val (.ref a), .val (.ref b), .unset] [] := by first | exact own_entry rfl | (simp [entryFrame, mkF, argsToLocals, Value.category]; done) | rfl
set_option maxRecDepth 65536 in
set_option maxHeartbeats 40000000 in
theorem rmEQ1_1 (l : Launch) (Z : State) (a0 : Array Value) (hw : ∀ d ∈ tables_1, d.before a0 Z = true) (a d b g : Addr) (kd kg : ClassId) (x0 y0 : Int32) (r : Int32) (h0 : Heap) (n0 : Nat) (Z0 : n0 ≤ h0.size) (E1 : Exa Z h0 a "java/lang/String") (F1 : Fld Z h0 a "java/lang/String" "value" "[B" (.ref d)) (G1 : Fld Z h0 a "java/lang/String" "coder" "B" (.int (0 : Int32))) (V1 : Arv Z h0 d kd .byte (1 : Int32) [(.int x0)] (.int (0 : Int32))) (E2 : Exa Z h0 b "java/lang/String") (F2 : Fld Z h0 b "java/lang/String" "value" "[B" (.ref g)) (G2 : Fld Z h0 b "java/lang/String" "coder" "B" (.int (0 : Int32))) (V2 : Arv Z h0 g kg .byte (1 : Int32) [(.int y0)] (.int (0 : Int32))) (hab : a ≠ b) (cs : Int32) (S_cs : Sta Z h0 "java/lang/String" "COMPACT_STRINGS" "Z" (.int cs)) (hcs : ¬ cs = 0) (hr : r = if (some [x0] : Option (List Int32)) = some [y0] then 1 else 0) :
    Pays l (⟨"java/lang/String", "equals", "(Ljava/lang/Object;)Z"⟩ : MethodName) jdk_42_method_66_code 3 (some .boolean) ({ frames := 1, cells := 0, slots := 0, locals := 14 } : Room) Z #[(.ref a), (.ref b)] h0 (fun v h L => v = some (.int r) ∧ Fr n0 L ∧ h = h0) := by
  refine Pays.of (plainFor_of_name pn_java_lang_String) ?_
  intro pP eE sS m below methM cC T hx hby hml hret hlk hZ hown hnm eT X
  replace hown : sS.vm.findClass "java/lang/String" = some m.cls := hown
  have N0 := Fr.nil n0
  refine Go.cast (ef_rmEQ1_1 m a b) ?_
  refine Go.st (S' := T.setTop (mkF m 1 #[.val (.ref a), .val (.ref b), .unset] [(.ref a)])) (fun t kt => XS.aloadN X.here hx rfl (hb hby dEQ1_1_0) rfl rfl kt) ?_
  refine Go.st (S' := T.setTop (mkF m 2 #[.val (.ref a), .val (.ref b), .unset] [(.ref b), (.ref a)])) (fun t kt => XS.aloadN X.here hx rfl (hb hby dEQ1_1_1) rfl rfl kt) ?_
  refine Go.st (S' := T.setTop (mkF m 7 #[.val (.ref a), .val (.ref b), .unset] [])) (fun t kt => XT.acmpYes X.here hx rfl (pc0 := 2) (pc' := 7) rfl (hb hby dEQ1_1_2) rfl rfl rfl (XT.aa_ne_t (fun q => hab (Value.ref.inj q))) (by decide) (by decide) kt) ?_
  refine Go.st (S' := T.setTop (mkF m 8 #[.val (.ref a), .val (.ref b), .unset] [(.ref b)])) (fun t kt => XS.aloadN X.here hx rfl (hb hby dEQ1_1_7) rfl rfl kt) ?_
  obtain ⟨T1, X1, e1, st1⟩ := instY X hx hZ hown (hw _ (List.mem_of_getElem? (i := 87) rfl)) eT (Ins.self E2) (g := (mkF m 8 #[.val (.ref a), .val (.ref b), .unset] [(.ref b)])) rfl rfl (hb hby dEQ1_1_8)
  refine Go.st (S' := T1.setTop (mkF m 11 #[.val (.ref a), .val (.ref b), .unset] [(.int (1 : Int32))])) (fun t kt => st1 t kt) ?_
  refine Go.st (S' := T1.setTop (mkF m 14 #[.val (.ref a), .val (.ref b), .unset] [])) (fun t kt => XS.ifNo X1.here hx rfl (hb hby dEQ1_1_11) rfl (XT.i0_eq_f (by decide)) kt) ?_
  refine Go.st (S' := T1.setTop (mkF m 15 #[.val (.ref a), .val (.ref b), .unset] [(.ref b)])) (fun t kt => XS.aloadN X1.here hx rfl (hb hby dEQ1_1_14) rfl rfl kt) ?_
  obtain ⟨T2, X2, e2, st2⟩ := castY X1 hx hZ hown (hw _ (List.mem_of_getElem? (i := 87) rfl)) e1 (Ins.self E2) (g := (mkF m 15 #[.val (.ref a), .val (.ref b), .unset] [(.ref b)])) rfl rfl (hb hby dEQ1_1_15)
  refine Go.st (S' := T2.setTop (mkF m 18 #[.val (.ref a), .val (.ref b), .unset] [(.ref b)])) (fun t kt => st2 t kt) ?_
  refine Go.st (S' := T2.setTop (mkF m 19 #[.val (.ref a), .val (.ref b), .val (.ref b)] [])) (fun t kt => XS.astoreN X2.here hx rfl (hb hby dEQ1_1_18) rfl rfl rfl kt) ?_
  obtain ⟨T3, X3, e3, st3⟩ := getS X2 hx hZ (host := "") hown (hw _ (List.mem_of_getElem? (i := 59) rfl)) Via.refl e2 S_cs (g := (mkF m 19 #[.val (.ref a), .val (.ref b), .val (.ref b)] [])) rfl (hb hby dEQ1_1_19)
  refine Go.st (S' := T3.setTop (mkF m 22 #[.val (.ref a), .val (.ref b), .val (.ref b)] [(.int cs)])) (fun t kt => st3 t kt) ?_
  refine Go.st (S' := T3.setTop (mkF m 25 #[.val (.ref a), .val (.ref b), .val (.ref b)] [])) (fun t kt => XS.ifNo X3.here hx rfl (hb hby dEQ1_1_22) rfl (XT.i0_eq_f hcs) kt) ?_
  refine Go.st (S' := T3.setTop (mkF m 26 #[.val (.ref a), .val (.ref b), .val (.ref b)] [(.ref a)])) (fun t kt => XS.aloadN X3.here hx rfl (hb hby dEQ1_1_25) rfl rfl kt) ?_
  obtain ⟨T4, X4, e4, st4⟩ := getF X3 hx hZ hown (host := "") (Or.inl (hw _ (List.mem_of_getElem? (i := 71) rfl))) Via.refl e3 G1 (g := (mkF m 26 #[.val (.ref a), .val (.ref b), .val (.ref b)] [(.ref a)])) rfl rfl (hb hby dEQ1_1_26)
  refine Go.st (S' := T4.setTop (mkF m 29 #[.val (.ref a), .val (.ref b), .val (.ref b)] [(.int (0 : Int32))])) (fun t kt => st4 t kt) ?_
  refine Go.st (S' := T4.setTop (mkF m 30 #[.val (.ref a), .val (.ref b), .val (.ref b)] [(.ref b), (.int (0 : Int32))])) (fun t kt => XS.aloadN X4.here hx rfl (hb hby dEQ1_1_29) rfl rfl kt) ?_
  obtain ⟨T5, X5, e5, st5⟩ := getF X4 hx hZ hown (host := "") (Or.inl (hw _ (List.mem_of_getElem? (i := 71) rfl))) Via.refl e4 G2 (g := (mkF m 30 #[.val (.ref a), .val (.ref b), .val (.ref b)] [(.ref b), (.int (0 : Int32))])) rfl rfl (hb hby dEQ1_1_30)
  refine Go.st (S' := T5.setTop (mkF m 33 #[.val (.ref a), .val (.ref b), .val (.ref b)] [(.int (0 : Int32)), (.int (0 : Int32))])) (fun t kt => st5 t kt) ?_
  refine Go.st (S' := T5.setTop (mkF m 36 #[.val (.ref a), .val (.ref b), .val (.ref b)] [])) (fun t kt => XS.icmpNo X5.here hx rfl (hb hby dEQ1_1_33) rfl (XT.ii_ne_f (by decide)) kt) ?_
  refine Go.st (S' := T5.setTop (mkF m 37 #[.val (.ref a), .val (.ref b), .val (.ref b)] [(.ref a)])) (fun t kt => XS.aloadN X5.here hx rfl (hb hby dEQ1_1_36) rfl rfl kt) ?_
  obtain ⟨T6, X6, e6, st6⟩ := getF X5 hx hZ hown (host := "") (Or.inl (hw _ (List.mem_of_getElem? (i := 73) rfl))) Via.refl e5 F1 (g := (mkF m 37 #[.val (.ref a), .val (.ref b), .val (.ref b)] [(.ref a)])) rfl rfl (hb hby dEQ1_1_37)
  refine Go.st (S' := T6.setTop (mkF m 40 #[.val (.ref a), .val (.ref b), .val (.ref b)] [(.ref d)])) (fun t kt => st6 t kt) ?_
  refine Go.st (S' := T6.setTop (mkF m 41 #[.val (.ref a), .val (.ref b), .val (.ref b)] [(.ref b), (.ref d)])) (fun t kt => XS.aloadN X6.here hx rfl (hb hby dEQ1_1_40) rfl rfl kt) ?_
  obtain ⟨T7, X7, e7, st7⟩ := getF X6 hx hZ hown (host := "") (Or.inl (hw _ (List.mem_of_getElem? (i := 73) rfl))) Via.refl e6 F2 (g := (mkF m 41 #[.val (.ref a), .val (.ref b), .val (.ref b)] [(.ref b), (.ref d)])) rfl rfl (hb hby dEQ1_1_41)
  refine Go.st (S' := T7.setTop (mkF m 44 #[.val (.ref a), .val (.ref b), .val (.ref b)] [(.ref g), (.ref d)])) (fun t kt => st7 t kt) ?_
  refine Go.stat X7 hx hZ hown (hw _ (List.mem_of_getElem? (i := 88) rfl)) (hw _ (List.mem_of_getElem? (i := 89) rfl)) (hw _ (List.mem_of_getElem? (i := 90) rfl)) (hw _ (List.mem_of_getElem? (i := 91) rfl)) (by decide) (argsL := [(.ref d), (.ref g)]) (rest := []) (rmLE1_1 l Z a0 hw d g kd kg x0 y0 r h0 n0 Z0 V1 V2 hr) e7 rfl (by rw [hml]; rfl) pd___B_B_Z rfl (hb hby dEQ1_1_44) 0 (Nat.le_refl _) (by decide) (by decide) (by decide) (by decide) ?_
  intro v8 T8 L8 X8 hQ8
  obtain ⟨hv8, N8', e8⟩ := hQ8
  subst hv8
  have N8 := Fr.app N0 N8'
  show Go pP eE below _ (T8.setTop (mkF m 47 #[.val (.ref a), .val (.ref b), .val (.ref b)] [(.int r)]))
  by_cases hc47_9 : r = 0
  · refine Go.st (S' := T8.setTop (mkF m 54 #[.val (.ref a), .val (.ref b), .val (.ref b)] [])) (fun t kt => XS.ifYes X8.here hx rfl (pc0 := 47) (pc' := 54) rfl (hb hby dEQ1_1_47) rfl (XT.i0_eq_t hc47_9) (by decide) (by decide) kt) ?_
    refine Go.st (S' := T8.setTop (mkF m 55 #[.val (.ref a), .val (.ref b), .val (.ref b)] [(.int (0 : Int32))])) (fun t kt => XS.iconst X8.here hx rfl (hb hby dEQ1_1_54) kt) ?_
    exact ret_b X8 hx hlk hret (hb hby dEQ1_1_55) (by decide) (by decide) (⟨by rw [hc47_9]; rfl, N8, e8⟩)
  · refine Go.st (S' := T8.setTop (mkF m 50 #[.val (.ref a), .val (.ref b), .val (.ref b)] [])) (fun t kt => XS.ifNo X8.here hx rfl (hb hby dEQ1_1_47) rfl (XT.i0_eq_f hc47_9) kt) ?_
    refine Go.st (S' := T8.setTop (mkF m 51 #[.val (.ref a), .val (.ref b), .val (.ref b)] [(.int (1 : Int32))])) (fun t kt => XS.iconst X8.here hx rfl (hb hby dEQ1_1_50) kt) ?_
    refine Go.st (S' := T8.setTop (mkF m 55 #[.val (.ref a), .val (.ref b), .val (.ref b)] [(.int (1 : Int32))])) (fun t kt => XS.goto X8.here hx rfl (pc0 := 51) (pc' := 55) rfl (hb hby dEQ1_1_51) (by decide) (by decide) kt) ?_
    exact ret_b X8 hx hlk hret (hb hby dEQ1_1_55) (by decide) (by decide) (⟨by rw [own_r01 hr hc47_9]; rfl, N8, e8⟩)
theorem dLE1_2_0 : decode jdk_43_method_13_code 0 = .ok (.aload_n 0, 1) := by decide +kernel
theorem dLE1_2_1 : decode jdk_43_method_13_code 1 = .ok (.arraylength, 1) := by decide +kernel
theorem dLE1_2_2 : decode jdk_43_method_13_code 2 = .ok (.aload_n 1, 1) := by decide +kernel
theorem dLE1_2_3 : decode jdk_43_method_13_code 3 = .ok (.arraylength, 1) := by decide +kernel
theorem dLE1_2_4 : decode jdk_43_method_13_code 4 = .ok (.if_icmp .ne 30, 3) := by decide +kernel
theorem dLE1_2_34 : decode jdk_43_method_13_code 34 = .ok (.iconst 0, 1) := by decide +kernel
theorem dLE1_2_35 : decode jdk_43_method_13_code 35 = .ok (.ireturn, 1) := by decide +kernel
theorem ef_rmLE1_2 (m : MethodId) (d : Addr) (g : Addr) : entryFrame m #[(.ref d), (.ref g)] 3 = mkF m 0 #[.val (.ref d), .val (.ref g), .unset] [] := by first | exact own_entry rfl | (simp [entryFrame, mkF, argsToLocals, Value.category]; done) | rfl
set_option maxRecDepth 65536 in
set_option maxHeartbeats 40000000 in
theorem rmLE1_2 (l : Launch) (Z : State) (a0 : Array Value) (hw : ∀ d ∈ tables_1, d.before a0 Z = true) (d g : Addr) (kd kg : ClassId) (x0 y0 y1 : Int32) (r : Int32) (h0 : Heap) (n0 : Nat) (Z0 : n0 ≤ h0.size) (V_d : Arv Z h0 d kd .byte (1 : Int32) [(.int x0)] (.int (0 : Int32))) (V_g : Arv Z h0 g kg .byte (2 : Int32) [(.int y0), (.int y1)] (.int (0 : Int32))) (hr : r = if (some [x0] : Option (List Int32)) = some [y0, y1] then 1 else 0) :
    Pays l (⟨"java/lang/StringLatin1", "equals", "([B[B)Z"⟩ : MethodName) jdk_43_method_13_code 3 (some .boolean) ({ frames := 0, cells := 0, slots := 0, locals := 0 } : Room) Z #[(.ref d), (.ref g)] h0 (fun v h L => v = some (.int r) ∧ Fr n0 L ∧ h = h0) := by
  refine Pays.of (plainFor_of_name pn_java_lang_StringLatin1) ?_
  intro pP eE sS m below methM cC T hx hby hml hret hlk hZ hown hnm eT X
  replace hown : sS.vm.findClass "java/lang/StringLatin1" = some m.cls := hown
  have N0 := Fr.nil n0
  refine Go.cast (ef_rmLE1_2 m d g) ?_
  refine Go.st (S' := T.setTop (mkF m 1 #[.val (.ref d), .val (.ref g), .unset] [(.ref d)])) (fun t kt => XS.aloadN X.here hx rfl (hb hby dLE1_2_0) rfl rfl kt) ?_
  obtain ⟨cl1, Ar1, q1, S1, M1, H1, G1⟩ := id V_d
  refine Go.st (S' := T.setTop (mkF m 2 #[.val (.ref d), .val (.ref g), .unset] [(.int (1 : Int32))])) (fun t kt => own_alen X hx hZ eT Ar1 (len_of S1 M1) rfl (hb hby dLE1_2_1) t kt) ?_
  refine Go.st (S' := T.setTop (mkF m 3 #[.val (.ref d), .val (.ref g), .unset] [(.ref g), (.int (1 : Int32))])) (fun t kt => XS.aloadN X.here hx rfl (hb hby dLE1_2_2) rfl rfl kt) ?_
  obtain ⟨cl2, Ar2, q2, S2, M2, H2, G2⟩ := id V_g
  refine Go.st (S' := T.setTop (mkF m 4 #[.val (.ref d), .val (.ref g), .unset] [(.int (2 : Int32)), (.int (1 : Int32))])) (fun t kt => own_alen X hx hZ eT Ar2 (len_of S2 M2) rfl (hb hby dLE1_2_3) t kt) ?_
  refine Go.st (S' := T.setTop (mkF m 34 #[.val (.ref d), .val (.ref g), .unset] [])) (fun t kt => XS.icmpYes X.here hx rfl (pc0 := 4) (pc' := 34) rfl (hb hby dLE1_2_4) rfl (XT.ii_ne_t (by decide)) (by decide) (by decide) kt) ?_
  refine Go.st (S' := T.setTop (mkF m 35 #[.val (.ref d), .val (.ref g), .unset] [(.int (0 : Int32))])) (fun t kt => XS.iconst X.here hx rfl (hb hby dLE1_2_34) kt) ?_
  exact ret_b X hx hlk hret (hb hby dLE1_2_35) (by decide) (by decide) (⟨by show some (Value.int (0 : Int32)) = some (.int r); rw [hr]; simp, N0, eT⟩)
theorem dEQ1_2_0 : decode jdk_42_method_66_code 0 = .ok (.aload_n 0, 1) := by decide +kernel
theorem dEQ1_2_1 : decode jdk_42_method_66_code 1 = .ok (.aload_n 1, 1) := by decide +kernel
theorem dEQ1_2_2 : decode jdk_42_method_66_code 2 = .ok (.if_acmp .ne 5, 3) := by decide +kernel
theorem dEQ1_2_7 : decode jdk_42_method_66_code 7 = .ok (.aload_n 1, 1) := by decide +kernel
theorem dEQ1_2_8 : decode jdk_42_method_66_code 8 = .ok (.instanceof 10, 3) := by decide +kernel
theorem dEQ1_2_11 : decode jdk_42_method_66_code 11 = .ok (.ifCond .eq 43, 3) := by decide +kernel
theorem dEQ1_2_14 : decode jdk_42_method_66_code 14 = .ok (.aload_n 1, 1) := by decide +kernel
theorem dEQ1_2_15 : decode jdk_42_method_66_code 15 = .ok (.checkcast 10, 3) := by decide +kernel
theorem dEQ1_2_18 : decode jdk_42_method_66_code 18 = .ok (.astore_n 2, 1) := by decide +kernel
theorem dEQ1_2_19 : decode jdk_42_method_66_code 19 = .ok (.getstatic 38, 3) := by decide +kernel
theorem dEQ1_2_22 : decode jdk_42_method_66_code 22 = .ok (.ifCond .eq 14, 3) := by decide +kernel
theorem dEQ1_2_25 : decode jdk_42_method_66_code 25 = .ok (.aload_n 0, 1) := by decide +kernel
theorem dEQ1_2_26 : decode jdk_42_method_66_code 26 = .ok (.getfield 15, 3) := by decide +kernel
theorem dEQ1_2_29 : decode jdk_42_method_66_code 29 = .ok (.aload_n 2, 1) := by decide +kernel
theorem dEQ1_2_30 : decode jdk_42_method_66_code 30 = .ok (.getfield 15, 3) := by decide +kernel
theorem dEQ1_2_33 : decode jdk_42_method_66_code 33 = .ok (.if_icmp .ne 21, 3) := by decide +kernel
theorem dEQ1_2_36 : decode jdk_42_method_66_code 36 = .ok (.aload_n 0, 1) := by decide +kernel
theorem dEQ1_2_37 : decode jdk_42_method_66_code 37 = .ok (.getfield 9, 3) := by decide +kernel
theorem dEQ1_2_40 : decode jdk_42_method_66_code 40 = .ok (.aload_n 2, 1) := by decide +kernel
theorem dEQ1_2_41 : decode jdk_42_method_66_code 41 = .ok (.getfield 9, 3) := by decide +kernel
theorem dEQ1_2_44 : decode jdk_42_method_66_code 44 = .ok (.invokestatic 541, 3) := by decide +kernel
theorem dEQ1_2_47 : decode jdk_42_method_66_code 47 = .ok (.ifCond .eq 7, 3) := by decide +kernel
theorem dEQ1_2_50 : decode jdk_42_method_66_code 50 = .ok (.iconst 1, 1) := by decide +kernel
theorem dEQ1_2_51 : decode jdk_42_method_66_code 51 = .ok (.goto 4, 3) := by decide +kernel
theorem dEQ1_2_54 : decode jdk_42_method_66_code 54 = .ok (.iconst 0, 1) := by decide +kernel
theorem dEQ1_2_55 : decode jdk_42_method_66_code 55 = .ok (.ireturn, 1) := by decide +kernel
theorem ef_rmEQ1_2 (m : MethodId) (a : Addr) (b : Addr) : entryFrame m #[(.ref a), (.ref b)] 3 = mkF m 0 #[.val (.ref a), .val (.ref b), .unset] [] := by first | exact own_entry rfl | (simp [entryFrame, mkF, argsToLocals, Value.category]; done) | rfl
set_option maxRecDepth 65536 in
set_option maxHeartbeats 40000000 in
theorem rmEQ1_2 (l : Launch) (Z : State) (a0 : Array Value) (hw : ∀ d ∈ tables_1, d.before a0 Z = true) (a d b g : Addr) (kd kg : ClassId) (x0 y0 y1 : Int32) (r : Int32) (h0 : Heap) (n0 : Nat) (Z0 : n0 ≤ h0.size) (E1 : Exa Z h0 a "java/lang/String") (F1 : Fld Z h0 a "java/lang/String" "value" "[B" (.ref d)) (G1 : Fld Z h0 a "java/lang/String" "coder" "B" (.int (0 : Int32))) (V1 : Arv Z h0 d kd .byte (1 : Int32) [(.int x0)] (.int (0 : Int32))) (E2 : Exa Z h0 b "java/lang/String") (F2 : Fld Z h0 b "java/lang/String" "value" "[B" (.ref g)) (G2 : Fld Z h0 b "java/lang/String" "coder" "B" (.int (0 : Int32))) (V2 : Arv Z h0 g kg .byte (2 : Int32) [(.int y0), (.int y1)] (.int (0 : Int32))) (hab : a ≠ b) (cs : Int32) (S_cs : Sta Z h0 "java/lang/String" "COMPACT_STRINGS" "Z" (.int cs)) (hcs : ¬ cs = 0) (hr : r = if (some [x0] : Option (List Int32)) = some [y0, y1] then 1 else 0) :
    Pays l (⟨"java/lang/String", "equals", "(Ljava/lang/Object;)Z"⟩ : MethodName) jdk_42_method_66_code 3 (some .boolean) ({ frames := 1, cells := 0, slots := 0, locals := 14 } : Room) Z #[(.ref a), (.ref b)] h0 (fun v h L => v = some (.int r) ∧ Fr n0 L ∧ h = h0) := by
  refine Pays.of (plainFor_of_name pn_java_lang_String) ?_
  intro pP eE sS m below methM cC T hx hby hml hret hlk hZ hown hnm eT X
  replace hown : sS.vm.findClass "java/lang/String" = some m.cls := hown
  have N0 := Fr.nil n0
  refine Go.cast (ef_rmEQ1_2 m a b) ?_
  refine Go.st (S' := T.setTop (mkF m 1 #[.val (.ref a), .val (.ref b), .unset] [(.ref a)])) (fun t kt => XS.aloadN X.here hx rfl (hb hby dEQ1_2_0) rfl rfl kt) ?_
  refine Go.st (S' := T.setTop (mkF m 2 #[.val (.ref a), .val (.ref b), .unset] [(.ref b), (.ref a)])) (fun t kt => XS.aloadN X.here hx rfl (hb hby dEQ1_2_1) rfl rfl kt) ?_
  refine Go.st (S' := T.setTop (mkF m 7 #[.val (.ref a), .val (.ref b), .unset] [])) (fun t kt => XT.acmpYes X.here hx rfl (pc0 := 2) (pc' := 7) rfl (hb hby dEQ1_2_2) rfl rfl rfl (XT.aa_ne_t (fun q => hab (Value.ref.inj q))) (by decide) (by decide) kt) ?_
  refine Go.st (S' := T.setTop (mkF m 8 #[.val (.ref a), .val (.ref b), .unset] [(.ref b)])) (fun t kt => XS.aloadN X.here hx rfl (hb hby dEQ1_2_7) rfl rfl kt) ?_
  obtain ⟨T1, X1, e1, st1⟩ := instY X hx hZ hown (hw _ (List.mem_of_getElem? (i := 87) rfl)) eT (Ins.self E2) (g := (mkF m 8 #[.val (.ref a), .val (.ref b), .unset] [(.ref b)])) rfl rfl (hb hby dEQ1_2_8)
  refine Go.st (S' := T1.setTop (mkF m 11 #[.val (.ref a), .val (.ref b), .unset] [(.int (1 : Int32))])) (fun t kt => st1 t kt) ?_
  refine Go.st (S' := T1.setTop (mkF m 14 #[.val (.ref a), .val (.ref b), .unset] [])) (fun t kt => XS.ifNo X1.here hx rfl (hb hby dEQ1_2_11) rfl (XT.i0_eq_f (by decide)) kt) ?_
  refine Go.st (S' := T1.setTop (mkF m 15 #[.val (.ref a), .val (.ref b), .unset] [(.ref b)])) (fun t kt => XS.aloadN X1.here hx rfl (hb hby dEQ1_2_14) rfl rfl kt) ?_
  obtain ⟨T2, X2, e2, st2⟩ := castY X1 hx hZ hown (hw _ (List.mem_of_getElem? (i := 87) rfl)) e1 (Ins.self E2) (g := (mkF m 15 #[.val (.ref a), .val (.ref b), .unset] [(.ref b)])) rfl rfl (hb hby dEQ1_2_15)
  refine Go.st (S' := T2.setTop (mkF m 18 #[.val (.ref a), .val (.ref b), .unset] [(.ref b)])) (fun t kt => st2 t kt) ?_
  refine Go.st (S' := T2.setTop (mkF m 19 #[.val (.ref a), .val (.ref b), .val (.ref b)] [])) (fun t kt => XS.astoreN X2.here hx rfl (hb hby dEQ1_2_18) rfl rfl rfl kt) ?_
  obtain ⟨T3, X3, e3, st3⟩ := getS X2 hx hZ (host := "") hown (hw _ (List.mem_of_getElem? (i := 59) rfl)) Via.refl e2 S_cs (g := (mkF m 19 #[.val (.ref a), .val (.ref b), .val (.ref b)] [])) rfl (hb hby dEQ1_2_19)
  refine Go.st (S' := T3.setTop (mkF m 22 #[.val (.ref a), .val (.ref b), .val (.ref b)] [(.int cs)])) (fun t kt => st3 t kt) ?_
  refine Go.st (S' := T3.setTop (mkF m 25 #[.val (.ref a), .val (.ref b), .val (.ref b)] [])) (fun t kt => XS.ifNo X3.here hx rfl (hb hby dEQ1_2_22) rfl (XT.i0_eq_f hcs) kt) ?_
  refine Go.st (S' := T3.setTop (mkF m 26 #[.val (.ref a), .val (.ref b), .val (.ref b)] [(.ref a)])) (fun t kt => XS.aloadN X3.here hx rfl (hb hby dEQ1_2_25) rfl rfl kt) ?_
  obtain ⟨T4, X4, e4, st4⟩ := getF X3 hx hZ hown (host := "") (Or.inl (hw _ (List.mem_of_getElem? (i := 71) rfl))) Via.refl e3 G1 (g := (mkF m 26 #[.val (.ref a), .val (.ref b), .val (.ref b)] [(.ref a)])) rfl rfl (hb hby dEQ1_2_26)
  refine Go.st (S' := T4.setTop (mkF m 29 #[.val (.ref a), .val (.ref b), .val (.ref b)] [(.int (0 : Int32))])) (fun t kt => st4 t kt) ?_
  refine Go.st (S' := T4.setTop (mkF m 30 #[.val (.ref a), .val (.ref b), .val (.ref b)] [(.ref b), (.int (0 : Int32))])) (fun t kt => XS.aloadN X4.here hx rfl (hb hby dEQ1_2_29) rfl rfl kt) ?_
  obtain ⟨T5, X5, e5, st5⟩ := getF X4 hx hZ hown (host := "") (Or.inl (hw _ (List.mem_of_getElem? (i := 71) rfl))) Via.refl e4 G2 (g := (mkF m 30 #[.val (.ref a), .val (.ref b), .val (.ref b)] [(.ref b), (.int (0 : Int32))])) rfl rfl (hb hby dEQ1_2_30)
  refine Go.st (S' := T5.setTop (mkF m 33 #[.val (.ref a), .val (.ref b), .val (.ref b)] [(.int (0 : Int32)), (.int (0 : Int32))])) (fun t kt => st5 t kt) ?_
  refine Go.st (S' := T5.setTop (mkF m 36 #[.val (.ref a), .val (.ref b), .val (.ref b)] [])) (fun t kt => XS.icmpNo X5.here hx rfl (hb hby dEQ1_2_33) rfl (XT.ii_ne_f (by decide)) kt) ?_
  refine Go.st (S' := T5.setTop (mkF m 37 #[.val (.ref a), .val (.ref b), .val (.ref b)] [(.ref a)])) (fun t kt => XS.aloadN X5.here hx rfl (hb hby dEQ1_2_36) rfl rfl kt) ?_
  obtain ⟨T6, X6, e6, st6⟩ := getF X5 hx hZ hown (host := "") (Or.inl (hw _ (List.mem_of_getElem? (i := 73) rfl))) Via.refl e5 F1 (g := (mkF m 37 #[.val (.ref a), .val (.ref b), .val (.ref b)] [(.ref a)])) rfl rfl (hb hby dEQ1_2_37)
  refine Go.st (S' := T6.setTop (mkF m 40 #[.val (.ref a), .val (.ref b), .val (.ref b)] [(.ref d)])) (fun t kt => st6 t kt) ?_
  refine Go.st (S' := T6.setTop (mkF m 41 #[.val (.ref a), .val (.ref b), .val (.ref b)] [(.ref b), (.ref d)])) (fun t kt => XS.aloadN X6.here hx rfl (hb hby dEQ1_2_40) rfl rfl kt) ?_
  obtain ⟨T7, X7, e7, st7⟩ := getF X6 hx hZ hown (host := "") (Or.inl (hw _ (List.mem_of_getElem? (i := 73) rfl))) Via.refl e6 F2 (g := (mkF m 41 #[.val (.ref a), .val (.ref b), .val (.ref b)] [(.ref b), (.ref d)])) rfl rfl (hb hby dEQ1_2_41)
  refine Go.st (S' := T7.setTop (mkF m 44 #[.val (.ref a), .val (.ref b), .val (.ref b)] [(.ref g), (.ref d)])) (fun t kt => st7 t kt) ?_
  refine Go.stat X7 hx hZ hown (hw _ (List.mem_of_getElem? (i := 88) rfl)) (hw _ (List.mem_of_getElem? (i := 89) rfl)) (hw _ (List.mem_of_getElem? (i := 90) rfl)) (hw _ (List.mem_of_getElem? (i := 91) rfl)) (by decide) (argsL := [(.ref d), (.ref g)]) (rest := []) (rmLE1_2 l Z a0 hw d g kd kg x0 y0 y1 r h0 n0 Z0 V1 V2 hr) e7 rfl (by rw [hml]; rfl) pd___B_B_Z rfl (hb hby dEQ1_2_44) 0 (Nat.le_refl _) (by decide) (by decide) (by decide) (by decide) ?_
  intro v8 T8 L8 X8 hQ8
  obtain ⟨hv8, N8', e8⟩ := hQ8
  subst hv8
  have N8 := Fr.app N0 N8'
  show Go pP eE below _ (T8.setTop (mkF m 47 #[.val (.ref a), .val (.ref b), .val (.ref b)] [(.int r)]))
  by_cases hc47_9 : r = 0
  · refine Go.st (S' := T8.setTop (mkF m 54 #[.val (.ref a), .val (.ref b), .val (.ref b)] [])) (fun t kt => XS.ifYes X8.here hx rfl (pc0 := 47) (pc' := 54) rfl (hb hby dEQ1_2_47) rfl (XT.i0_eq_t hc47_9) (by decide) (by decide) kt) ?_
    refine Go.st (S' := T8.setTop (mkF m 55 #[.val (.ref a), .val (.ref b), .val (.ref b)] [(.int (0 : Int32))])) (fun t kt => XS.iconst X8.here hx rfl (hb hby dEQ1_2_54) kt) ?_
    exact ret_b X8 hx hlk hret (hb hby dEQ1_2_55) (by decide) (by decide) (⟨by rw [hc47_9]; rfl, N8, e8⟩)
  · refine Go.st (S' := T8.setTop (mkF m 50 #[.val (.ref a), .val (.ref b), .val (.ref b)] [])) (fun t kt => XS.ifNo X8.here hx rfl (hb hby dEQ1_2_47) rfl (XT.i0_eq_f hc47_9) kt) ?_
    refine Go.st (S' := T8.setTop (mkF m 51 #[.val (.ref a), .val (.ref b), .val (.ref b)] [(.int (1 : Int32))])) (fun t kt => XS.iconst X8.here hx rfl (hb hby dEQ1_2_50) kt) ?_
    refine Go.st (S' := T8.setTop (mkF m 55 #[.val (.ref a), .val (.ref b), .val (.ref b)] [(.int (1 : Int32))])) (fun t kt => XS.goto X8.here hx rfl (pc0 := 51) (pc' := 55) rfl (hb hby dEQ1_2_51) (by decide) (by decide) kt) ?_
    exact ret_b X8 hx hlk hret (hb hby dEQ1_2_55) (by decide) (by decide) (⟨by rw [own_r01 hr hc47_9]; rfl, N8, e8⟩)
theorem dEQ2_n_0 : decode jdk_42_method_66_code 0 = .ok (.aload_n 0, 1) := by decide +kernel
theorem dEQ2_n_1 : decode jdk_42_method_66_code 1 = .ok (.aload_n 1, 1) := by decide +kernel
theorem dEQ2_n_2 : decode jdk_42_method_66_code 2 = .ok (.if_acmp .ne 5, 3) := by decide +kernel
theorem dEQ2_n_7 : decode jdk_42_method_66_code 7 = .ok (.aload_n 1, 1) := by decide +kernel
theorem dEQ2_n_8 : decode jdk_42_method_66_code 8 = .ok (.instanceof 10, 3) := by decide +kernel
theorem dEQ2_n_11 : decode jdk_42_method_66_code 11 = .ok (.ifCond .eq 43, 3) := by decide +kernel
theorem dEQ2_n_54 : decode jdk_42_method_66_code 54 = .ok (.iconst 0, 1) := by decide +kernel
theorem dEQ2_n_55 : decode jdk_42_method_66_code 55 = .ok (.ireturn, 1) := by decide +kernel
theorem ef_rmEQ2_n (m : MethodId) (a : Addr) : entryFrame m #[(.ref a), .null] 3 = mkF m 0 #[.val (.ref a), .val .null, .unset] [] := by first | exact own_entry rfl | (simp [entryFrame, mkF, argsToLocals, Value.category]; done) | rfl
set_option maxRecDepth 65536 in
set_option maxHeartbeats 40000000 in
theorem rmEQ2_n (l : Launch) (Z : State) (a0 : Array Value) (hw : ∀ d ∈ tables_1, d.before a0 Z = true) (a d : Addr) (kd : ClassId) (x0 x1 : Int32) (r : Int32) (h0 : Heap) (n0 : Nat) (Z0 : n0 ≤ h0.size) (E1 : Exa Z h0 a "java/lang/String") (F1 : Fld Z h0 a "java/lang/String" "value" "[B" (.ref d)) (G1 : Fld Z h0 a "java/lang/String" "coder" "B" (.int (0 : Int32))) (V1 : Arv Z h0 d kd .byte (2 : Int32) [(.int x0), (.int x1)] (.int (0 : Int32))) (cs : Int32) (S_cs : Sta Z h0 "java/lang/String" "COMPACT_STRINGS" "Z" (.int cs)) (hcs : ¬ cs = 0) (hr : r = if (some [x0, x1] : Option (List Int32)) = none then 1 else 0) :
    Pays l (⟨"java/lang/String", "equals", "(Ljava/lang/Object;)Z"⟩ : MethodName) jdk_42_method_66_code 3 (some .boolean) ({ frames := 1, cells := 0, slots := 0, locals := 14 } : Room) Z #[(.ref a), .null] h0 (fun v h L => v = some (.int r) ∧ Fr n0 L ∧ h = h0) := by
  refine Pays.of (plainFor_of_name pn_java_lang_String) ?_
  intro pP eE sS m below methM cC T hx hby hml hret hlk hZ hown hnm eT X
  replace hown : sS.vm.findClass "java/lang/String" = some m.cls := hown
  have N0 := Fr.nil n0
  refine Go.cast (ef_rmEQ2_n m a) ?_
  refine Go.st (S' := T.setTop (mkF m 1 #[.val (.ref a), .val .null, .unset] [(.ref a)])) (fun t kt => XS.aloadN X.here hx rfl (hb hby dEQ2_n_0) rfl rfl kt) ?_
  refine Go.st (S' := T.setTop (mkF m 2 #[.val (.ref a), .val .null, .unset] [.null, (.ref a)])) (fun t kt => XS.aloadN X.here hx rfl (hb hby dEQ2_n_1) rfl rfl kt) ?_
  refine Go.st (S' := T.setTop (mkF m 7 #[.val (.ref a), .val .null, .unset] [])) (fun t kt => XT.acmpYes X.here hx rfl (pc0 := 2) (pc' := 7) rfl (hb hby dEQ2_n_2) rfl rfl rfl (XT.aa_ne_t (by simp)) (by decide) (by decide) kt) ?_
  refine Go.st (S' := T.setTop (mkF m 8 #[.val (.ref a), .val .null, .unset] [.null])) (fun t kt => XS.aloadN X.here hx rfl (hb hby dEQ2_n_7) rfl rfl kt) ?_
  refine Go.st (S' := T.setTop (mkF m 11 #[.val (.ref a), .val .null, .unset] [(.int (0 : Int32))])) (fun t kt => X.instanceofNull hx (g := (mkF m 8 #[.val (.ref a), .val .null, .unset] [.null])) rfl rfl (hb hby dEQ2_n_8) t kt) ?_
  refine Go.st (S' := T.setTop (mkF m 54 #[.val (.ref a), .val .null, .unset] [])) (fun t kt => XS.ifYes X.here hx rfl (pc0 := 11) (pc' := 54) rfl (hb hby dEQ2_n_11) rfl (XT.i0_eq_t (by decide)) (by decide) (by decide) kt) ?_
  refine Go.st (S' := T.setTop (mkF m 55 #[.val (.ref a), .val .null, .unset] [(.int (0 : Int32))])) (fun t kt => XS.iconst X.here hx rfl (hb hby dEQ2_n_54) kt) ?_
  exact ret_b X hx hlk hret (hb hby dEQ2_n_55) (by decide) (by decide) (⟨by rw [hr]; rfl, N0, eT⟩)
theorem dLE2_0_0 : decode jdk_43_method_13_code 0 = .ok (.aload_n 0, 1) := by decide +kernel
theorem dLE2_0_1 : decode jdk_43_method_13_code 1 = .ok (.arraylength, 1) := by decide +kernel
theorem dLE2_0_2 : decode jdk_43_method_13_code 2 = .ok (.aload_n 1, 1) := by decide +kernel
theorem dLE2_0_3 : decode jdk_43_method_13_code 3 = .ok (.arraylength, 1) := by decide +kernel
theorem dLE2_0_4 : decode jdk_43_method_13_code 4 = .ok (.if_icmp .ne 30, 3) := by decide +kernel
theorem dLE2_0_34 : decode jdk_43_method_13_code 34 = .ok (.iconst 0, 1) := by decide +kernel
theorem dLE2_0_35 : decode jdk_43_method_13_code 35 = .ok (.ireturn, 1) := by decide +kernel
theorem ef_rmLE2_0 (m : MethodId) (d : Addr) (g : Addr) : entryFrame m #[(.ref d), (.ref g)] 3 = mkF m 0 #[.val (.ref d), .val (.ref g), .unset] [] := by first | exact own_entry rfl | (simp [entryFrame, mkF, argsToLocals, Value.category]; done) | rfl
set_option maxRecDepth 65536 in
set_option maxHeartbeats 40000000 in
theorem rmLE2_0 (l : Launch) (Z : State) (a0 : Array Value) (hw : ∀ d ∈ tables_1, d.before a0 Z = true) (d g : Addr) (kd kg : ClassId) (x0 x1 : Int32) (r : Int32) (h0 : Heap) (n0 : Nat) (Z0 : n0 ≤ h0.size) (V_d : Arv Z h0 d kd .byte (2 : Int32) [(.int x0), (.int x1)] (.int (0 : Int32))) (V_g : Arv Z h0 g kg .byte (0 : Int32) [] (.int (0 : Int32))) (hr : r = if (some [x0, x1] : Option (List Int32)) = some [] then 1 else 0) :
    Pays l (⟨"java/lang/StringLatin1", "equals", "([B[B)Z"⟩ : MethodName) jdk_43_method_13_code 3 (some .boolean) ({ frames := 0, cells := 0, slots := 0, locals := 0 } : Room) Z #[(.ref d), (.ref g)] h0 (fun v h L => v = some (.int r) ∧ Fr n0 L ∧ h = h0) := by
  refine Pays.of (plainFor_of_name pn_java_lang_StringLatin1) ?_
  intro pP eE sS m below methM cC T hx hby hml hret hlk hZ hown hnm eT X
  replace hown : sS.vm.findClass "java/lang/StringLatin1" = some m.cls := hown
  have N0 := Fr.nil n0
  refine Go.cast (ef_rmLE2_0 m d g) ?_
  refine Go.st (S' := T.setTop (mkF m 1 #[.val (.ref d), .val (.ref g), .unset] [(.ref d)])) (fun t kt => XS.aloadN X.here hx rfl (hb hby dLE2_0_0) rfl rfl kt) ?_
  obtain ⟨cl1, Ar1, q1, S1, M1, H1, G1⟩ := id V_d
  refine Go.st (S' := T.setTop (mkF m 2 #[.val (.ref d), .val (.ref g), .unset] [(.int (2 : Int32))])) (fun t kt => own_alen X hx hZ eT Ar1 (len_of S1 M1) rfl (hb hby dLE2_0_1) t kt) ?_
  refine Go.st (S' := T.setTop (mkF m 3 #[.val (.ref d), .val (.ref g), .unset] [(.ref g), (.int (2 : Int32))])) (fun t kt => XS.aloadN X.here hx rfl (hb hby dLE2_0_2) rfl rfl kt) ?_
  obtain ⟨cl2, Ar2, q2, S2, M2, H2, G2⟩ := id V_g
  refine Go.st (S' := T.setTop (mkF m 4 #[.val (.ref d), .val (.ref g), .unset] [(.int (0 : Int32)), (.int (2 : Int32))])) (fun t kt => own_alen X hx hZ eT Ar2 (len_of S2 M2) rfl (hb hby dLE2_0_3) t kt) ?_
  refine Go.st (S' := T.setTop (mkF m 34 #[.val (.ref d), .val (.ref g), .unset] [])) (fun t kt => XS.icmpYes X.here hx rfl (pc0 := 4) (pc' := 34) rfl (hb hby dLE2_0_4) rfl (XT.ii_ne_t (by decide)) (by decide) (by decide) kt) ?_
  refine Go.st (S' := T.setTop (mkF m 35 #[.val (.ref d), .val (.ref g), .unset] [(.int (0 : Int32))])) (fun t kt => XS.iconst X.here hx rfl (hb hby dLE2_0_34) kt) ?_
  exact ret_b X hx hlk hret (hb hby dLE2_0_35) (by decide) (by decide) (⟨by show some (Value.int (0 : Int32)) = some (.int r); rw [hr]; simp, N0, eT⟩)
theorem dEQ2_0_0 : decode jdk_42_method_66_code 0 = .ok (.aload_n 0, 1) := by decide +kernel
theorem dEQ2_0_1 : decode jdk_42_method_66_code 1 = .ok (.aload_n 1, 1) := by decide +kernel
theorem dEQ2_0_2 : decode jdk_42_method_66_code 2 = .ok (.if_acmp .ne 5, 3) := by decide +kernel
theorem dEQ2_0_7 : decode jdk_42_method_66_code 7 = .ok (.aload_n 1, 1) := by decide +kernel
theorem dEQ2_0_8 : decode jdk_42_method_66_code 8 = .ok (.instanceof 10, 3) := by decide +kernel
theorem dEQ2_0_11 : decode jdk_42_method_66_code 11 = .ok (.ifCond .eq 43, 3) := by decide +kernel
theorem dEQ2_0_14 : decode jdk_42_method_66_code 14 = .ok (.aload_n 1, 1) := by decide +kernel
theorem dEQ2_0_15 : decode jdk_42_method_66_code 15 = .ok (.checkcast 10, 3) := by decide +kernel
theorem dEQ2_0_18 : decode jdk_42_method_66_code 18 = .ok (.astore_n 2, 1) := by decide +kernel
theorem dEQ2_0_19 : decode jdk_42_method_66_code 19 = .ok (.getstatic 38, 3) := by decide +kernel
theorem dEQ2_0_22 : decode jdk_42_method_66_code 22 = .ok (.ifCond .eq 14, 3) := by decide +kernel
theorem dEQ2_0_25 : decode jdk_42_method_66_code 25 = .ok (.aload_n 0, 1) := by decide +kernel
theorem dEQ2_0_26 : decode jdk_42_method_66_code 26 = .ok (.getfield 15, 3) := by decide +kernel
theorem dEQ2_0_29 : decode jdk_42_method_66_code 29 = .ok (.aload_n 2, 1) := by decide +kernel
theorem dEQ2_0_30 : decode jdk_42_method_66_code 30 = .ok (.getfield 15, 3) := by decide +kernel
theorem dEQ2_0_33 : decode jdk_42_method_66_code 33 = .ok (.if_icmp .ne 21, 3) := by decide +kernel
theorem dEQ2_0_36 : decode jdk_42_method_66_code 36 = .ok (.aload_n 0, 1) := by decide +kernel
theorem dEQ2_0_37 : decode jdk_42_method_66_code 37 = .ok (.getfield 9, 3) := by decide +kernel
theorem dEQ2_0_40 : decode jdk_42_method_66_code 40 = .ok (.aload_n 2, 1) := by decide +kernel
theorem dEQ2_0_41 : decode jdk_42_method_66_code 41 = .ok (.getfield 9, 3) := by decide +kernel
theorem dEQ2_0_44 : decode jdk_42_method_66_code 44 = .ok (.invokestatic 541, 3) := by decide +kernel
theorem dEQ2_0_47 : decode jdk_42_method_66_code 47 = .ok (.ifCond .eq 7, 3) := by decide +kernel
theorem dEQ2_0_50 : decode jdk_42_method_66_code 50 = .ok (.iconst 1, 1) := by decide +kernel
theorem dEQ2_0_51 : decode jdk_42_method_66_code 51 = .ok (.goto 4, 3) := by decide +kernel
theorem dEQ2_0_54 : decode jdk_42_method_66_code 54 = .ok (.iconst 0, 1) := by decide +kernel
theorem dEQ2_0_55 : decode jdk_42_method_66_code 55 = .ok (.ireturn, 1) := by decide +kernel
theorem ef_rmEQ2_0 (m : MethodId) (a : Addr) (b : Addr) : entryFrame m #[(.ref a), (.ref b)] 3 = mkF m 0 #[.val (.ref a), .val (.ref b), .unset] [] := by first | exact own_entry rfl | (simp [entryFrame, mkF, argsToLocals, Value.category]; done) | rfl
set_option maxRecDepth 65536 in
set_option maxHeartbeats 40000000 in
theorem rmEQ2_0 (l : Launch) (Z : State) (a0 : Array Value) (hw : ∀ d ∈ tables_1, d.before a0 Z = true) (a d b g : Addr) (kd kg : ClassId) (x0 x1 : Int32) (r : Int32) (h0 : Heap) (n0 : Nat) (Z0 : n0 ≤ h0.size) (E1 : Exa Z h0 a "java/lang/String") (F1 : Fld Z h0 a "java/lang/String" "value" "[B" (.ref d)) (G1 : Fld Z h0 a "java/lang/String" "coder" "B" (.int (0 : Int32))) (V1 : Arv Z h0 d kd .byte (2 : Int32) [(.int x0), (.int x1)] (.int (0 : Int32))) (E2 : Exa Z h0 b "java/lang/String") (F2 : Fld Z h0 b "java/lang/String" "value" "[B" (.ref g)) (G2 : Fld Z h0 b "java/lang/String" "coder" "B" (.int (0 : Int32))) (V2 : Arv Z h0 g kg .byte (0 : Int32) [] (.int (0 : Int32))) (hab : a ≠ b) (cs : Int32) (S_cs : Sta Z h0 "java/lang/String" "COMPACT_STRINGS" "Z" (.int cs)) (hcs : ¬ cs = 0) (hr : r = if (some [x0, x1] : Option (List Int32)) = some [] then 1 else 0) :
    Pays l (⟨"java/lang/String", "equals", "(Ljava/lang/Object;)Z"⟩ : MethodName) jdk_42_method_66_code 3 (some .boolean) ({ frames := 1, cells := 0, slots := 0, locals := 14 } : Room) Z #[(.ref a), (.ref b)] h0 (fun v h L => v = some (.int r) ∧ Fr n0 L ∧ h = h0) := by
  refine Pays.of (plainFor_of_name pn_java_lang_String) ?_
  intro pP eE sS m below methM cC T hx hby hml hret hlk hZ hown hnm eT X
  replace hown : sS.vm.findClass "java/lang/String" = some m.cls := hown
  have N0 := Fr.nil n0
  refine Go.cast (ef_rmEQ2_0 m a b) ?_
  refine Go.st (S' := T.setTop (mkF m 1 #[.val (.ref a), .val (.ref b), .unset] [(.ref a)])) (fun t kt => XS.aloadN X.here hx rfl (hb hby dEQ2_0_0) rfl rfl kt) ?_
  refine Go.st (S' := T.setTop (mkF m 2 #[.val (.ref a), .val (.ref b), .unset] [(.ref b), (.ref a)])) (fun t kt => XS.aloadN X.here hx rfl (hb hby dEQ2_0_1) rfl rfl kt) ?_
  refine Go.st (S' := T.setTop (mkF m 7 #[.val (.ref a), .val (.ref b), .unset] [])) (fun t kt => XT.acmpYes X.here hx rfl (pc0 := 2) (pc' := 7) rfl (hb hby dEQ2_0_2) rfl rfl rfl (XT.aa_ne_t (fun q => hab (Value.ref.inj q))) (by decide) (by decide) kt) ?_
  refine Go.st (S' := T.setTop (mkF m 8 #[.val (.ref a), .val (.ref b), .unset] [(.ref b)])) (fun t kt => XS.aloadN X.here hx rfl (hb hby dEQ2_0_7) rfl rfl kt) ?_
  obtain ⟨T1, X1, e1, st1⟩ := instY X hx hZ hown (hw _ (List.mem_of_getElem? (i := 87) rfl)) eT (Ins.self E2) (g := (mkF m 8 #[.val (.ref a), .val (.ref b), .unset] [(.ref b)])) rfl rfl (hb hby dEQ2_0_8)
  refine Go.st (S' := T1.setTop (mkF m 11 #[.val (.ref a), .val (.ref b), .unset] [(.int (1 : Int32))])) (fun t kt => st1 t kt) ?_
  refine Go.st (S' := T1.setTop (mkF m 14 #[.val (.ref a), .val (.ref b), .unset] [])) (fun t kt => XS.ifNo X1.here hx rfl (hb hby dEQ2_0_11) rfl (XT.i0_eq_f (by decide)) kt) ?_
  refine Go.st (S' := T1.setTop (mkF m 15 #[.val (.ref a), .val (.ref b), .unset] [(.ref b)])) (fun t kt => XS.aloadN X1.here hx rfl (hb hby dEQ2_0_14) rfl rfl kt) ?_
  obtain ⟨T2, X2, e2, st2⟩ := castY X1 hx hZ hown (hw _ (List.mem_of_getElem? (i := 87) rfl)) e1 (Ins.self E2) (g := (mkF m 15 #[.val (.ref a), .val (.ref b), .unset] [(.ref b)])) rfl rfl (hb hby dEQ2_0_15)
  refine Go.st (S' := T2.setTop (mkF m 18 #[.val (.ref a), .val (.ref b), .unset] [(.ref b)])) (fun t kt => st2 t kt) ?_
  refine Go.st (S' := T2.setTop (mkF m 19 #[.val (.ref a), .val (.ref b), .val (.ref b)] [])) (fun t kt => XS.astoreN X2.here hx rfl (hb hby dEQ2_0_18) rfl rfl rfl kt) ?_
  obtain ⟨T3, X3, e3, st3⟩ := getS X2 hx hZ (host := "") hown (hw _ (List.mem_of_getElem? (i := 59) rfl)) Via.refl e2 S_cs (g := (mkF m 19 #[.val (.ref a), .val (.ref b), .val (.ref b)] [])) rfl (hb hby dEQ2_0_19)
  refine Go.st (S' := T3.setTop (mkF m 22 #[.val (.ref a), .val (.ref b), .val (.ref b)] [(.int cs)])) (fun t kt => st3 t kt) ?_
  refine Go.st (S' := T3.setTop (mkF m 25 #[.val (.ref a), .val (.ref b), .val (.ref b)] [])) (fun t kt => XS.ifNo X3.here hx rfl (hb hby dEQ2_0_22) rfl (XT.i0_eq_f hcs) kt) ?_
  refine Go.st (S' := T3.setTop (mkF m 26 #[.val (.ref a), .val (.ref b), .val (.ref b)] [(.ref a)])) (fun t kt => XS.aloadN X3.here hx rfl (hb hby dEQ2_0_25) rfl rfl kt) ?_
  obtain ⟨T4, X4, e4, st4⟩ := getF X3 hx hZ hown (host := "") (Or.inl (hw _ (List.mem_of_getElem? (i := 71) rfl))) Via.refl e3 G1 (g := (mkF m 26 #[.val (.ref a), .val (.ref b), .val (.ref b)] [(.ref a)])) rfl rfl (hb hby dEQ2_0_26)
  refine Go.st (S' := T4.setTop (mkF m 29 #[.val (.ref a), .val (.ref b), .val (.ref b)] [(.int (0 : Int32))])) (fun t kt => st4 t kt) ?_
  refine Go.st (S' := T4.setTop (mkF m 30 #[.val (.ref a), .val (.ref b), .val (.ref b)] [(.ref b), (.int (0 : Int32))])) (fun t kt => XS.aloadN X4.here hx rfl (hb hby dEQ2_0_29) rfl rfl kt) ?_
  obtain ⟨T5, X5, e5, st5⟩ := getF X4 hx hZ hown (host := "") (Or.inl (hw _ (List.mem_of_getElem? (i := 71) rfl))) Via.refl e4 G2 (g := (mkF m 30 #[.val (.ref a), .val (.ref b), .val (.ref b)] [(.ref b), (.int (0 : Int32))])) rfl rfl (hb hby dEQ2_0_30)
  refine Go.st (S' := T5.setTop (mkF m 33 #[.val (.ref a), .val (.ref b), .val (.ref b)] [(.int (0 : Int32)), (.int (0 : Int32))])) (fun t kt => st5 t kt) ?_
  refine Go.st (S' := T5.setTop (mkF m 36 #[.val (.ref a), .val (.ref b), .val (.ref b)] [])) (fun t kt => XS.icmpNo X5.here hx rfl (hb hby dEQ2_0_33) rfl (XT.ii_ne_f (by decide)) kt) ?_
  refine Go.st (S' := T5.setTop (mkF m 37 #[.val (.ref a), .val (.ref b), .val (.ref b)] [(.ref a)])) (fun t kt => XS.aloadN X5.here hx rfl (hb hby dEQ2_0_36) rfl rfl kt) ?_
  obtain ⟨T6, X6, e6, st6⟩ := getF X5 hx hZ hown (host := "") (Or.inl (hw _ (List.mem_of_getElem? (i := 73) rfl))) Via.refl e5 F1 (g := (mkF m 37 #[.val (.ref a), .val (.ref b), .val (.ref b)] [(.ref a)])) rfl rfl (hb hby dEQ2_0_37)
  refine Go.st (S' := T6.setTop (mkF m 40 #[.val (.ref a), .val (.ref b), .val (.ref b)] [(.ref d)])) (fun t kt => st6 t kt) ?_
  refine Go.st (S' := T6.setTop (mkF m 41 #[.val (.ref a), .val (.ref b), .val (.ref b)] [(.ref b), (.ref d)])) (fun t kt => XS.aloadN X6.here hx rfl (hb hby dEQ2_0_40) rfl rfl kt) ?_
  obtain ⟨T7, X7, e7, st7⟩ := getF X6 hx hZ hown (host := "") (Or.inl (hw _ (List.mem_of_getElem? (i := 73) rfl))) Via.refl e6 F2 (g := (mkF m 41 #[.val (.ref a), .val (.ref b), .val (.ref b)] [(.ref b), (.ref d)])) rfl rfl (hb hby dEQ2_0_41)
  refine Go.st (S' := T7.setTop (mkF m 44 #[.val (.ref a), .val (.ref b), .val (.ref b)] [(.ref g), (.ref d)])) (fun t kt => st7 t kt) ?_
  refine Go.stat X7 hx hZ hown (hw _ (List.mem_of_getElem? (i := 88) rfl)) (hw _ (List.mem_of_getElem? (i := 89) rfl)) (hw _ (List.mem_of_getElem? (i := 90) rfl)) (hw _ (List.mem_of_getElem? (i := 91) rfl)) (by decide) (argsL := [(.ref d), (.ref g)]) (rest := []) (rmLE2_0 l Z a0 hw d g kd kg x0 x1 r h0 n0 Z0 V1 V2 hr) e7 rfl (by rw [hml]; rfl) pd___B_B_Z rfl (hb hby dEQ2_0_44) 0 (Nat.le_refl _) (by decide) (by decide) (by decide) (by decide) ?_
  intro v8 T8 L8 X8 hQ8
  obtain ⟨hv8, N8', e8⟩ := hQ8
  subst hv8
  have N8 := Fr.app N0 N8'
  show Go pP eE below _ (T8.setTop (mkF m 47 #[.val (.ref a), .val (.ref b), .val (.ref b)] [(.int r)]))
  by_cases hc47_9 : r = 0
  · refine Go.st (S' := T8.setTop (mkF m 54 #[.val (.ref a), .val (.ref b), .val (.ref b)] [])) (fun t kt => XS.ifYes X8.here hx rfl (pc0 := 47) (pc' := 54) rfl (hb hby dEQ2_0_47) rfl (XT.i0_eq_t hc47_9) (by decide) (by decide) kt) ?_
    refine Go.st (S' := T8.setTop (mkF m 55 #[.val (.ref a), .val (.ref b), .val (.ref b)] [(.int (0 : Int32))])) (fun t kt => XS.iconst X8.here hx rfl (hb hby dEQ2_0_54) kt) ?_
    exact ret_b X8 hx hlk hret (hb hby dEQ2_0_55) (by decide) (by decide) (⟨by rw [hc47_9]; rfl, N8, e8⟩)
  · refine Go.st (S' := T8.setTop (mkF m 50 #[.val (.ref a), .val (.ref b), .val (.ref b)] [])) (fun t kt => XS.ifNo X8.here hx rfl (hb hby dEQ2_0_47) rfl (XT.i0_eq_f hc47_9) kt) ?_
    refine Go.st (S' := T8.setTop (mkF m 51 #[.val (.ref a), .val (.ref b), .val (.ref b)] [(.int (1 : Int32))])) (fun t kt => XS.iconst X8.here hx rfl (hb hby dEQ2_0_50) kt) ?_
    refine Go.st (S' := T8.setTop (mkF m 55 #[.val (.ref a), .val (.ref b), .val (.ref b)] [(.int (1 : Int32))])) (fun t kt => XS.goto X8.here hx rfl (pc0 := 51) (pc' := 55) rfl (hb hby dEQ2_0_51) (by decide) (by decide) kt) ?_
    exact ret_b X8 hx hlk hret (hb hby dEQ2_0_55) (by decide) (by decide) (⟨by rw [own_r01 hr hc47_9]; rfl, N8, e8⟩)
theorem dLE2_1_0 : decode jdk_43_method_13_code 0 = .ok (.aload_n 0, 1) := by decide +kernel
theorem dLE2_1_1 : decode jdk_43_method_13_code 1 = .ok (.arraylength, 1) := by decide +kernel
theorem dLE2_1_2 : decode jdk_43_method_13_code 2 = .ok (.aload_n 1, 1) := by decide +kernel
theorem dLE2_1_3 : decode jdk_43_method_13_code 3 = .ok (.arraylength, 1) := by decide +kernel
theorem dLE2_1_4 : decode jdk_43_method_13_code 4 = .ok (.if_icmp .ne 30, 3) := by decide +kernel
theorem dLE2_1_34 : decode jdk_43_method_13_code 34 = .ok (.iconst 0, 1) := by decide +kernel
theorem dLE2_1_35 : decode jdk_43_method_13_code 35 = .ok (.ireturn, 1) := by decide +kernel
theorem ef_rmLE2_1 (m : MethodId) (d : Addr) (g : Addr) : entryFrame m #[(.ref d), (.ref g)] 3 = mkF m 0 #[.val (.ref d), .val (.ref g), .unset] [] := by first | exact own_entry rfl | (simp [entryFrame, mkF, argsToLocals, Value.category]; done) | rfl
set_option maxRecDepth 65536 in
set_option maxHeartbeats 40000000 in
theorem rmLE2_1 (l : Launch) (Z : State) (a0 : Array Value) (hw : ∀ d ∈ tables_1, d.before a0 Z = true) (d g : Addr) (kd kg : ClassId) (x0 x1 y0 : Int32) (r : Int32) (h0 : Heap) (n0 : Nat) (Z0 : n0 ≤ h0.size) (V_d : Arv Z h0 d kd .byte (2 : Int32) [(.int x0), (.int x1)] (.int (0 : Int32))) (V_g : Arv Z h0 g kg .byte (1 : Int32) [(.int y0)] (.int (0 : Int32))) (hr : r = if (some [x0, x1] : Option (List Int32)) = some [y0] then 1 else 0) :
    Pays l (⟨"java/lang/StringLatin1", "equals", "([B[B)Z"⟩ : MethodName) jdk_43_method_13_code 3 (some .boolean) ({ frames := 0, cells := 0, slots := 0, locals := 0 } : Room) Z #[(.ref d), (.ref g)] h0 (fun v h L => v = some (.int r) ∧ Fr n0 L ∧ h = h0) := by
  refine Pays.of (plainFor_of_name pn_java_lang_StringLatin1) ?_
  intro pP eE sS m below methM cC T hx hby hml hret hlk hZ hown hnm eT X
  replace hown : sS.vm.findClass "java/lang/StringLatin1" = some m.cls := hown
  have N0 := Fr.nil n0
  refine Go.cast (ef_rmLE2_1 m d g) ?_
  refine Go.st (S' := T.setTop (mkF m 1 #[.val (.ref d), .val (.ref g), .unset] [(.ref d)])) (fun t kt => XS.aloadN X.here hx rfl (hb hby dLE2_1_0) rfl rfl kt) ?_
  obtain ⟨cl1, Ar1, q1, S1, M1, H1, G1⟩ := id V_d
  refine Go.st (S' := T.setTop (mkF m 2 #[.val (.ref d), .val (.ref g), .unset] [(.int (2 : Int32))])) (fun t kt => own_alen X hx hZ eT Ar1 (len_of S1 M1) rfl (hb hby dLE2_1_1) t kt) ?_
  refine Go.st (S' := T.setTop (mkF m 3 #[.val (.ref d), .val (.ref g), .unset] [(.ref g), (.int (2 : Int32))])) (fun t kt => XS.aloadN X.here hx rfl (hb hby dLE2_1_2) rfl rfl kt) ?_
  obtain ⟨cl2, Ar2, q2, S2, M2, H2, G2⟩ := id V_g
  refine Go.st (S' := T.setTop (mkF m 4 #[.val (.ref d), .val (.ref g), .unset] [(.int (1 : Int32)), (.int (2 : Int32))])) (fun t kt => own_alen X hx hZ eT Ar2 (len_of S2 M2) rfl (hb hby dLE2_1_3) t kt) ?_
  refine Go.st (S' := T.setTop (mkF m 34 #[.val (.ref d), .val (.ref g), .unset] [])) (fun t kt => XS.icmpYes X.here hx rfl (pc0 := 4) (pc' := 34) rfl (hb hby dLE2_1_4) rfl (XT.ii_ne_t (by decide)) (by decide) (by decide) kt) ?_
  refine Go.st (S' := T.setTop (mkF m 35 #[.val (.ref d), .val (.ref g), .unset] [(.int (0 : Int32))])) (fun t kt => XS.iconst X.here hx rfl (hb hby dLE2_1_34) kt) ?_
  exact ret_b X hx hlk hret (hb hby dLE2_1_35) (by decide) (by decide) (⟨by show some (Value.int (0 : Int32)) = some (.int r); rw [hr]; simp, N0, eT⟩)
theorem dEQ2_1_0 : decode jdk_42_method_66_code 0 = .ok (.aload_n 0, 1) := by decide +kernel
theorem dEQ2_1_1 : decode jdk_42_method_66_code 1 = .ok (.aload_n 1, 1) := by decide +kernel
theorem dEQ2_1_2 : decode jdk_42_method_66_code 2 = .ok (.if_acmp .ne 5, 3) := by decide +kernel
theorem dEQ2_1_7 : decode jdk_42_method_66_code 7 = .ok (.aload_n 1, 1) := by decide +kernel
theorem dEQ2_1_8 : decode jdk_42_method_66_code 8 = .ok (.instanceof 10, 3) := by decide +kernel
theorem dEQ2_1_11 : decode jdk_42_method_66_code 11 = .ok (.ifCond .eq 43, 3) := by decide +kernel
theorem dEQ2_1_14 : decode jdk_42_method_66_code 14 = .ok (.aload_n 1, 1) := by decide +kernel
theorem dEQ2_1_15 : decode jdk_42_method_66_code 15 = .ok (.checkcast 10, 3) := by decide +kernel
theorem dEQ2_1_18 : decode jdk_42_method_66_code 18 = .ok (.astore_n 2, 1) := by decide +kernel
theorem dEQ2_1_19 : decode jdk_42_method_66_code 19 = .ok (.getstatic 38, 3) := by decide +kernel
theorem dEQ2_1_22 : decode jdk_42_method_66_code 22 = .ok (.ifCond .eq 14, 3) := by decide +kernel
theorem dEQ2_1_25 : decode jdk_42_method_66_code 25 = .ok (.aload_n 0, 1) := by decide +kernel
theorem dEQ2_1_26 : decode jdk_42_method_66_code 26 = .ok (.getfield 15, 3) := by decide +kernel
theorem dEQ2_1_29 : decode jdk_42_method_66_code 29 = .ok (.aload_n 2, 1) := by decide +kernel
theorem dEQ2_1_30 : decode jdk_42_method_66_code 30 = .ok (.getfield 15, 3) := by decide +kernel
theorem dEQ2_1_33 : decode jdk_42_method_66_code 33 = .ok (.if_icmp .ne 21, 3) := by decide +kernel
theorem dEQ2_1_36 : decode jdk_42_method_66_code 36 = .ok (.aload_n 0, 1) := by decide +kernel
theorem dEQ2_1_37 : decode jdk_42_method_66_code 37 = .ok (.getfield 9, 3) := by decide +kernel
theorem dEQ2_1_40 : decode jdk_42_method_66_code 40 = .ok (.aload_n 2, 1) := by decide +kernel
theorem dEQ2_1_41 : decode jdk_42_method_66_code 41 = .ok (.getfield 9, 3) := by decide +kernel
theorem dEQ2_1_44 : decode jdk_42_method_66_code 44 = .ok (.invokestatic 541, 3) := by decide +kernel
theorem dEQ2_1_47 : decode jdk_42_method_66_code 47 = .ok (.ifCond .eq 7, 3) := by decide +kernel
theorem dEQ2_1_50 : decode jdk_42_method_66_code 50 = .ok (.iconst 1, 1) := by decide +kernel
theorem dEQ2_1_51 : decode jdk_42_method_66_code 51 = .ok (.goto 4, 3) := by decide +kernel
theorem dEQ2_1_54 : decode jdk_42_method_66_code 54 = .ok (.iconst 0, 1) := by decide +kernel
theorem dEQ2_1_55 : decode jdk_42_method_66_code 55 = .ok (.ireturn, 1) := by decide +kernel
theorem ef_rmEQ2_1 (m : MethodId) (a : Addr) (b : Addr) : entryFrame m #[(.ref a), (.ref b)] 3 = mkF m 0 #[.val (.ref a), .val (.ref b), .unset] [] := by first | exact own_entry rfl | (simp [entryFrame, mkF, argsToLocals, Value.category]; done) | rfl
set_option maxRecDepth 65536 in
set_option maxHeartbeats 40000000 in
theorem rmEQ2_1 (l : Launch) (Z : State) (a0 : Array Value) (hw : ∀ d ∈ tables_1, d.before a0 Z = true) (a d b g : Addr) (kd kg : ClassId) (x0 x1 y0 : Int32) (r : Int32) (h0 : Heap) (n0 : Nat) (Z0 : n0 ≤ h0.size) (E1 : Exa Z h0 a "java/lang/String") (F1 : Fld Z h0 a "java/lang/String" "value" "[B" (.ref d)) (G1 : Fld Z h0 a "java/lang/String" "coder" "B" (.int (0 : Int32))) (V1 : Arv Z h0 d kd .byte (2 : Int32) [(.int x0), (.int x1)] (.int (0 : Int32))) (E2 : Exa Z h0 b "java/lang/String") (F2 : Fld Z h0 b "java/lang/String" "value" "[B" (.ref g)) (G2 : Fld Z h0 b "java/lang/String" "coder" "B" (.int (0 : Int32))) (V2 : Arv Z h0 g kg .byte (1 : Int32) [(.int y0)] (.int (0 : Int32))) (hab : a ≠ b) (cs : Int32) (S_cs : Sta Z h0 "java/lang/String" "COMPACT_STRINGS" "Z" (.int cs)) (hcs : ¬ cs = 0) (hr : r = if (some [x0, x1] : Option (List Int32)) = some [y0] then 1 else 0) :
    Pays l (⟨"java/lang/String", "equals", "(Ljava/lang/Object;)Z"⟩ : MethodName) jdk_42_method_66_code 3 (some .boolean) ({ frames := 1, cells := 0, slots := 0, locals := 14 } : Room) Z #[(.ref a), (.ref b)] h0 (fun v h L => v = some (.int r) ∧ Fr n0 L ∧ h = h0) := by
  refine Pays.of (plainFor_of_name pn_java_lang_String) ?_
  intro pP eE sS m below methM cC T hx hby hml hret hlk hZ hown hnm eT X
  replace hown : sS.vm.findClass "java/lang/String" = some m.cls := hown
  have N0 := Fr.nil n0
  refine Go.cast (ef_rmEQ2_1 m a b) ?_
  refine Go.st (S' := T.setTop (mkF m 1 #[.val (.ref a), .val (.ref b), .unset] [(.ref a)])) (fun t kt => XS.aloadN X.here hx rfl (hb hby dEQ2_1_0) rfl rfl kt) ?_
  refine Go.st (S' := T.setTop (mkF m 2 #[.val (.ref a), .val (.ref b), .unset] [(.ref b), (.ref a)])) (fun t kt => XS.aloadN X.here hx rfl (hb hby dEQ2_1_1) rfl rfl kt) ?_
  refine Go.st (S' := T.setTop (mkF m 7 #[.val (.ref a), .val (.ref b), .unset] [])) (fun t kt => XT.acmpYes X.here hx rfl (pc0 := 2) (pc' := 7) rfl (hb hby dEQ2_1_2) rfl rfl rfl (XT.aa_ne_t (fun q => hab (Value.ref.inj q))) (by decide) (by decide) kt) ?_
  refine Go.st (S' := T.setTop (mkF m 8 #[.val (.ref a), .val (.ref b), .unset] [(.ref b)])) (fun t kt => XS.aloadN X.here hx rfl (hb hby dEQ2_1_7) rfl rfl kt) ?_
  obtain ⟨T1, X1, e1, st1⟩ := instY X hx hZ hown (hw _ (List.mem_of_getElem? (i := 87) rfl)) eT (Ins.self E2) (g := (mkF m 8 #[.val (.ref a), .val (.ref b), .unset] [(.ref b)])) rfl rfl (hb hby dEQ2_1_8)
  refine Go.st (S' := T1.setTop (mkF m 11 #[.val (.ref a), .val (.ref b), .unset] [(.int (1 : Int32))])) (fun t kt => st1 t kt) ?_
  refine Go.st (S' := T1.setTop (mkF m 14 #[.val (.ref a), .val (.ref b), .unset] [])) (fun t kt => XS.ifNo X1.here hx rfl (hb hby dEQ2_1_11) rfl (XT.i0_eq_f (by decide)) kt) ?_
  refine Go.st (S' := T1.setTop (mkF m 15 #[.val (.ref a), .val (.ref b), .unset] [(.ref b)])) (fun t kt => XS.aloadN X1.here hx rfl (hb hby dEQ2_1_14) rfl rfl kt) ?_
  obtain ⟨T2, X2, e2, st2⟩ := castY X1 hx hZ hown (hw _ (List.mem_of_getElem? (i := 87) rfl)) e1 (Ins.self E2) (g := (mkF m 15 #[.val (.ref a), .val (.ref b), .unset] [(.ref b)])) rfl rfl (hb hby dEQ2_1_15)
  refine Go.st (S' := T2.setTop (mkF m 18 #[.val (.ref a), .val (.ref b), .unset] [(.ref b)])) (fun t kt => st2 t kt) ?_
  refine Go.st (S' := T2.setTop (mkF m 19 #[.val (.ref a), .val (.ref b), .val (.ref b)] [])) (fun t kt => XS.astoreN X2.here hx rfl (hb hby dEQ2_1_18) rfl rfl rfl kt) ?_
  obtain ⟨T3, X3, e3, st3⟩ := getS X2 hx hZ (host := "") hown (hw _ (List.mem_of_getElem? (i := 59) rfl)) Via.refl e2 S_cs (g := (mkF m 19 #[.val (.ref a), .val (.ref b), .val (.ref b)] [])) rfl (hb hby dEQ2_1_19)
  refine Go.st (S' := T3.setTop (mkF m 22 #[.val (.ref a), .val (.ref b), .val (.ref b)] [(.int cs)])) (fun t kt => st3 t kt) ?_
  refine Go.st (S' := T3.setTop (mkF m 25 #[.val (.ref a), .val (.ref b), .val (.ref b)] [])) (fun t kt => XS.ifNo X3.here hx rfl (hb hby dEQ2_1_22) rfl (XT.i0_eq_f hcs) kt) ?_
  refine Go.st (S' := T3.setTop (mkF m 26 #[.val (.ref a), .val (.ref b), .val (.ref b)] [(.ref a)])) (fun t kt => XS.aloadN X3.here hx rfl (hb hby dEQ2_1_25) rfl rfl kt) ?_
  obtain ⟨T4, X4, e4, st4⟩ := getF X3 hx hZ hown (host := "") (Or.inl (hw _ (List.mem_of_getElem? (i := 71) rfl))) Via.refl e3 G1 (g := (mkF m 26 #[.val (.ref a), .val (.ref b), .val (.ref b)] [(.ref a)])) rfl rfl (hb hby dEQ2_1_26)
  refine Go.st (S' := T4.setTop (mkF m 29 #[.val (.ref a), .val (.ref b), .val (.ref b)] [(.int (0 : Int32))])) (fun t kt => st4 t kt) ?_
  refine Go.st (S' := T4.setTop (mkF m 30 #[.val (.ref a), .val (.ref b), .val (.ref b)] [(.ref b), (.int (0 : Int32))])) (fun t kt => XS.aloadN X4.here hx rfl (hb hby dEQ2_1_29) rfl rfl kt) ?_
  obtain ⟨T5, X5, e5, st5⟩ := getF X4 hx hZ hown (host := "") (Or.inl (hw _ (List.mem_of_getElem? (i := 71) rfl))) Via.refl e4 G2 (g := (mkF m 30 #[.val (.ref a), .val (.ref b), .val (.ref b)] [(.ref b), (.int (0 : Int32))])) rfl rfl (hb hby dEQ2_1_30)
  refine Go.st (S' := T5.setTop (mkF m 33 #[.val (.ref a), .val (.ref b), .val (.ref b)] [(.int (0 : Int32)), (.int (0 : Int32))])) (fun t kt => st5 t kt) ?_
  refine Go.st (S' := T5.setTop (mkF m 36 #[.val (.ref a), .val (.ref b), .val (.ref b)] [])) (fun t kt => XS.icmpNo X5.here hx rfl (hb hby dEQ2_1_33) rfl (XT.ii_ne_f (by decide)) kt) ?_
  refine Go.st (S' := T5.setTop (mkF m 37 #[.val (.ref a), .val (.ref b), .val (.ref b)] [(.ref a)])) (fun t kt => XS.aloadN X5.here hx rfl (hb hby dEQ2_1_36) rfl rfl kt) ?_
  obtain ⟨T6, X6, e6, st6⟩ := getF X5 hx hZ hown (host := "") (Or.inl (hw _ (List.mem_of_getElem? (i := 73) rfl))) Via.refl e5 F1 (g := (mkF m 37 #[.val (.ref a), .val (.ref b), .val (.ref b)] [(.ref a)])) rfl rfl (hb hby dEQ2_1_37)
  refine Go.st (S' := T6.setTop (mkF m 40 #[.val (.ref a), .val (.ref b), .val (.ref b)] [(.ref d)])) (fun t kt => st6 t kt) ?_
  refine Go.st (S' := T6.setTop (mkF m 41 #[.val (.ref a), .val (.ref b), .val (.ref b)] [(.ref b), (.ref d)])) (fun t kt => XS.aloadN X6.here hx rfl (hb hby dEQ2_1_40) rfl rfl kt) ?_
  obtain ⟨T7, X7, e7, st7⟩ := getF X6 hx hZ hown (host := "") (Or.inl (hw _ (List.mem_of_getElem? (i := 73) rfl))) Via.refl e6 F2 (g := (mkF m 41 #[.val (.ref a), .val (.ref b), .val (.ref b)] [(.ref b), (.ref d)])) rfl rfl (hb hby dEQ2_1_41)
  refine Go.st (S' := T7.setTop (mkF m 44 #[.val (.ref a), .val (.ref b), .val (.ref b)] [(.ref g), (.ref d)])) (fun t kt => st7 t kt) ?_
  refine Go.stat X7 hx hZ hown (hw _ (List.mem_of_getElem? (i := 88) rfl)) (hw _ (List.mem_of_getElem? (i := 89) rfl)) (hw _ (List.mem_of_getElem? (i := 90) rfl)) (hw _ (List.mem_of_getElem? (i := 91) rfl)) (by decide) (argsL := [(.ref d), (.ref g)]) (rest := []) (rmLE2_1 l Z a0 hw d g kd kg x0 x1 y0 r h0 n0 Z0 V1 V2 hr) e7 rfl (by rw [hml]; rfl) pd___B_B_Z rfl (hb hby dEQ2_1_44) 0 (Nat.le_refl _) (by decide) (by decide) (by decide) (by decide) ?_
  intro v8 T8 L8 X8 hQ8
  obtain ⟨hv8, N8', e8⟩ := hQ8
  subst hv8
  have N8 := Fr.app N0 N8'
  show Go pP eE below _ (T8.setTop (mkF m 47 #[.val (.ref a), .val (.ref b), .val (.ref b)] [(.int r)]))
  by_cases hc47_9 : r = 0
  · refine Go.st (S' := T8.setTop (mkF m 54 #[.val (.ref a), .val (.ref b), .val (.ref b)] [])) (fun t kt => XS.ifYes X8.here hx rfl (pc0 := 47) (pc' := 54) rfl (hb hby dEQ2_1_47) rfl (XT.i0_eq_t hc47_9) (by decide) (by decide) kt) ?_
    refine Go.st (S' := T8.setTop (mkF m 55 #[.val (.ref a), .val (.ref b), .val (.ref b)] [(.int (0 : Int32))])) (fun t kt => XS.iconst X8.here hx rfl (hb hby dEQ2_1_54) kt) ?_
    exact ret_b X8 hx hlk hret (hb hby dEQ2_1_55) (by decide) (by decide) (⟨by rw [hc47_9]; rfl, N8, e8⟩)
  · refine Go.st (S' := T8.setTop (mkF m 50 #[.val (.ref a), .val (.ref b), .val (.ref b)] [])) (fun t kt => XS.ifNo X8.here hx rfl (hb hby dEQ2_1_47) rfl (XT.i0_eq_f hc47_9) kt) ?_
    refine Go.st (S' := T8.setTop (mkF m 51 #[.val (.ref a), .val (.ref b), .val (.ref b)] [(.int (1 : Int32))])) (fun t kt => XS.iconst X8.here hx rfl (hb hby dEQ2_1_50) kt) ?_
    refine Go.st (S' := T8.setTop (mkF m 55 #[.val (.ref a), .val (.ref b), .val (.ref b)] [(.int (1 : Int32))])) (fun t kt => XS.goto X8.here hx rfl (pc0 := 51) (pc' := 55) rfl (hb hby dEQ2_1_51) (by decide) (by decide) kt) ?_
    exact ret_b X8 hx hlk hret (hb hby dEQ2_1_55) (by decide) (by decide) (⟨by rw [own_r01 hr hc47_9]; rfl, N8, e8⟩)
theorem dLE2_2_0 : decode jdk_43_method_13_code 0 = .ok (.aload_n 0, 1) := by decide +kernel
theorem dLE2_2_1 : decode jdk_43_method_13_code 1 = .ok (.arraylength, 1) := by decide +kernel
theorem dLE2_2_2 : decode jdk_43_method_13_code 2 = .ok (.aload_n 1, 1) := by decide +kernel
theorem dLE2_2_3 : decode jdk_43_method_13_code 3 = .ok (.arraylength, 1) := by decide +kernel
theorem dLE2_2_4 : decode jdk_43_method_13_code 4 = .ok (.if_icmp .ne 30, 3) := by decide +kernel
theorem dLE2_2_7 : decode jdk_43_method_13_code 7 = .ok (.iconst 0, 1) := by decide +kernel
theorem dLE2_2_8 : decode jdk_43_method_13_code 8 = .ok (.istore_n 2, 1) := by decide +kernel
theorem dLE2_2_9 : decode jdk_43_method_13_code 9 = .ok (.iload_n 2, 1) := by decide +kernel
theorem dLE2_2_10 : decode jdk_43_method_13_code 10 = .ok (.aload_n 0, 1) := by decide +kernel
theorem dLE2_2_11 : decode jdk_43_method_13_code 11 = .ok (.arraylength, 1) := by decide +kernel
theorem dLE2_2_12 : decode jdk_43_method_13_code 12 = .ok (.if_icmp .ge 20, 3) := by decide +kernel
theorem dLE2_2_15 : decode jdk_43_method_13_code 15 = .ok (.aload_n 0, 1) := by decide +kernel
theorem dLE2_2_16 : decode jdk_43_method_13_code 16 = .ok (.iload_n 2, 1) := by decide +kernel
theorem dLE2_2_17 : decode jdk_43_method_13_code 17 = .ok (.baload, 1) := by decide +kernel
theorem dLE2_2_18 : decode jdk_43_method_13_code 18 = .ok (.aload_n 1, 1) := by decide +kernel
theorem dLE2_2_19 : decode jdk_43_method_13_code 19 = .ok (.iload_n 2, 1) := by decide +kernel
theorem dLE2_2_20 : decode jdk_43_method_13_code 20 = .ok (.baload, 1) := by decide +kernel
theorem dLE2_2_21 : decode jdk_43_method_13_code 21 = .ok (.if_icmp .eq 5, 3) := by decide +kernel
theorem dLE2_2_24 : decode jdk_43_method_13_code 24 = .ok (.iconst 0, 1) := by decide +kernel
theorem dLE2_2_25 : decode jdk_43_method_13_code 25 = .ok (.ireturn, 1) := by decide +kernel
theorem dLE2_2_26 : decode jdk_43_method_13_code 26 = .ok (.iinc 2 1, 3) := by decide +kernel
theorem dLE2_2_29 : decode jdk_43_method_13_code 29 = .ok (.goto (-20), 3) := by decide +kernel
theorem dLE2_2_32 : decode jdk_43_method_13_code 32 = .ok (.iconst 1, 1) := by decide +kernel
theorem dLE2_2_33 : decode jdk_43_method_13_code 33 = .ok (.ireturn, 1) := by decide +kernel
theorem ef_rmLE2_2 (m : MethodId) (d : Addr) (g : Addr) : entryFrame m #[(.ref d), (.ref g)] 3 = mkF m 0 #[.val (.ref d), .val (.ref g), .unset] [] := by first | exact own_entry rfl | (simp [entryFrame, mkF, argsToLocals, Value.category]; done) | rfl
set_option maxRecDepth 65536 in
set_option maxHeartbeats 40000000 in
theorem rmLE2_2 (l : Launch) (Z : State) (a0 : Array Value) (hw : ∀ d ∈ tables_1, d.before a0 Z = true) (d g : Addr) (kd kg : ClassId) (x0 x1 y0 y1 : Int32) (r : Int32) (h0 : Heap) (n0 : Nat) (Z0 : n0 ≤ h0.size) (V_d : Arv Z h0 d kd .byte (2 : Int32) [(.int x0), (.int x1)] (.int (0 : Int32))) (V_g : Arv Z h0 g kg .byte (2 : Int32) [(.int y0), (.int y1)] (.int (0 : Int32))) (hr : r = if (some [x0, x1] : Option (List Int32)) = some [y0, y1] then 1 else 0) :
    Pays l (⟨"java/lang/StringLatin1", "equals", "([B[B)Z"⟩ : MethodName) jdk_43_method_13_code 3 (some .boolean) ({ frames := 0, cells := 0, slots := 0, locals := 0 } : Room) Z #[(.ref d), (.ref g)] h0 (fun v h L => v = some (.int r) ∧ Fr n0 L ∧ h = h0) := by
  refine Pays.of (plainFor_of_name pn_java_lang_StringLatin1) ?_
  intro pP eE sS m below methM cC T hx hby hml hret hlk hZ hown hnm eT X
  replace hown : sS.vm.findClass "java/lang/StringLatin1" = some m.cls := hown
  have N0 := Fr.nil n0
  refine Go.cast (ef_rmLE2_2 m d g) ?_
  refine Go.st (S' := T.setTop (mkF m 1 #[.val (.ref d), .val (.ref g), .unset] [(.ref d)])) (fun t kt => XS.aloadN X.here hx rfl (hb hby dLE2_2_0) rfl rfl kt) ?_
  obtain ⟨cl1, Ar1, q1, S1, M1, H1, G1⟩ := id V_d
  refine Go.st (S' := T.setTop (mkF m 2 #[.val (.ref d), .val (.ref g), .unset] [(.int (2 : Int32))])) (fun t kt => own_alen X hx hZ eT Ar1 (len_of S1 M1) rfl (hb hby dLE2_2_1) t kt) ?_
  refine Go.st (S' := T.setTop (mkF m 3 #[.val (.ref d), .val (.ref g), .unset] [(.ref g), (.int (2 : Int32))])) (fun t kt => XS.aloadN X.here hx rfl (hb hby dLE2_2_2) rfl rfl kt) ?_
  obtain ⟨cl2, Ar2, q2, S2, M2, H2, G2⟩ := id V_g
  refine Go.st (S' := T.setTop (mkF m 4 #[.val (.ref d), .val (.ref g), .unset] [(.int (2 : Int32)), (.int (2 : Int32))])) (fun t kt => own_alen X hx hZ eT Ar2 (len_of S2 M2) rfl (hb hby dLE2_2_3) t kt) ?_
  refine Go.st (S' := T.setTop (mkF m 7 #[.val (.ref d), .val (.ref g), .unset] [])) (fun t kt => XS.icmpNo X.here hx rfl (hb hby dLE2_2_4) rfl (XT.ii_ne_f (by decide)) kt) ?_
  refine Go.st (S' := T.setTop (mkF m 8 #[.val (.ref d), .val (.ref g), .unset] [(.int (0 : Int32))])) (fun t kt => XS.iconst X.here hx rfl (hb hby dLE2_2_7) kt) ?_
  refine Go.st (S' := T.setTop (mkF m 9 #[.val (.ref d), .val (.ref g), .val (.int (0 : Int32))] [])) (fun t kt => XS.istoreN X.here hx rfl (hb hby dLE2_2_8) rfl rfl kt) ?_
  refine Go.st (S' := T.setTop (mkF m 10 #[.val (.ref d), .val (.ref g), .val (.int (0 : Int32))] [(.int (0 : Int32))])) (fun t kt => XS.iloadN X.here hx rfl (hb hby dLE2_2_9) rfl kt) ?_
  refine Go.st (S' := T.setTop (mkF m 11 #[.val (.ref d), .val (.ref g), .val (.int (0 : Int32))] [(.ref d), (.int (0 : Int32))])) (fun t kt => XS.aloadN X.here hx rfl (hb hby dLE2_2_10) rfl rfl kt) ?_
  obtain ⟨cl3, Ar3, q3, S3, M3, H3, G3⟩ := id V_d
  refine Go.st (S' := T.setTop (mkF m 12 #[.val (.ref d), .val (.ref g), .val (.int (0 : Int32))] [(.int (2 : Int32)), (.int (0 : Int32))])) (fun t kt => own_alen X hx hZ eT Ar3 (len_of S3 M3) rfl (hb hby dLE2_2_11) t kt) ?_
  refine Go.st (S' := T.setTop (mkF m 15 #[.val (.ref d), .val (.ref g), .val (.int (0 : Int32))] [])) (fun t kt => XS.icmpNo X.here hx rfl (hb hby dLE2_2_12) rfl (XT.ii_ge_f (by decide)) kt) ?_
  refine Go.st (S' := T.setTop (mkF m 16 #[.val (.ref d), .val (.ref g), .val (.int (0 : Int32))] [(.ref d)])) (fun t kt => XS.aloadN X.here hx rfl (hb hby dLE2_2_15) rfl rfl kt) ?_
  refine Go.st (S' := T.setTop (mkF m 17 #[.val (.ref d), .val (.ref g), .val (.int (0 : Int32))] [(.int (0 : Int32)), (.ref d)])) (fun t kt => XS.iloadN X.here hx rfl (hb hby dLE2_2_16) rfl kt) ?_
  obtain ⟨cl4, Ar4, q4, S4, M4, H4, G4⟩ := id V_d
  refine Go.st (S' := T.setTop (mkF m 18 #[.val (.ref d), .val (.ref g), .val (.int (0 : Int32))] [(.int x0)])) (fun t kt => X.baloadBytes hx (j := (0 : Int32)) (v := (.int x0)) (by rw [eT]; exact Ar4.1) (State.isArrayOf_alike hZ.alike Ar4.2.1) Ar4.2.2 (inb_of S4 ⟨by decide, by decide⟩) (Has.at H4 (inb_of S4 ⟨by decide, by decide⟩) rfl) (g := (mkF m 17 #[.val (.ref d), .val (.ref g), .val (.int (0 : Int32))] [(.int (0 : Int32)), (.ref d)])) rfl rfl (hb hby dLE2_2_17) t kt) ?_
  refine Go.st (S' := T.setTop (mkF m 19 #[.val (.ref d), .val (.ref g), .val (.int (0 : Int32))] [(.ref g), (.int x0)])) (fun t kt => XS.aloadN X.here hx rfl (hb hby dLE2_2_18) rfl rfl kt) ?_
  refine Go.st (S' := T.setTop (mkF m 20 #[.val (.ref d), .val (.ref g), .val (.int (0 : Int32))] [(.int (0 : Int32)), (.ref g), (.int x0)])) (fun t kt => XS.iloadN X.here hx rfl (hb hby dLE2_2_19) rfl kt) ?_
  obtain ⟨cl5, Ar5, q5, S5, M5, H5, G5⟩ := id V_g
  refine Go.st (S' := T.setTop (mkF m 21 #[.val (.ref d), .val (.ref g), .val (.int (0 : Int32))] [(.int y0), (.int x0)])) (fun t kt => X.baloadBytes hx (j := (0 : Int32)) (v := (.int y0)) (by rw [eT]; exact Ar5.1) (State.isArrayOf_alike hZ.alike Ar5.2.1) Ar5.2.2 (inb_of S5 ⟨by decide, by decide⟩) (Has.at H5 (inb_of S5 ⟨by decide, by decide⟩) rfl) (g := (mkF m 20 #[.val (.ref d), .val (.ref g), .val (.int (0 : Int32))] [(.int (0 : Int32)), (.ref g), (.int x0)])) rfl rfl (hb hby dLE2_2_20) t kt) ?_
  by_cases hc21_6 : x0 = y0
  · refine Go.st (S' := T.setTop (mkF m 26 #[.val (.ref d), .val (.ref g), .val (.int (0 : Int32))] [])) (fun t kt => XS.icmpYes X.here hx rfl (pc0 := 21) (pc' := 26) rfl (hb hby dLE2_2_21) rfl (XT.ii_eq_t hc21_6) (by decide) (by decide) kt) ?_
    refine Go.st (S' := T.setTop (mkF m 29 #[.val (.ref d), .val (.ref g), .val (.int (1 : Int32))] [])) (fun t kt => XT.iincV X.here hx rfl (1 : Int32) (hb hby dLE2_2_26) (by decide) rfl rfl kt) ?_
    refine Go.st (S' := T.setTop (mkF m 9 #[.val (.ref d), .val (.ref g), .val (.int (1 : Int32))] [])) (fun t kt => XS.goto X.here hx rfl (pc0 := 29) (pc' := 9) rfl (hb hby dLE2_2_29) (by decide) (by decide) kt) ?_
    refine Go.st (S' := T.setTop (mkF m 10 #[.val (.ref d), .val (.ref g), .val (.int (1 : Int32))] [(.int (1 : Int32))])) (fun t kt => XS.iloadN X.here hx rfl (hb hby dLE2_2_9) rfl kt) ?_
    refine Go.st (S' := T.setTop (mkF m 11 #[.val (.ref d), .val (.ref g), .val (.int (1 : Int32))] [(.ref d), (.int (1 : Int32))])) (fun t kt => XS.aloadN X.here hx rfl (hb hby dLE2_2_10) rfl rfl kt) ?_
    obtain ⟨cl7, Ar7, q7, S7, M7, H7, G7⟩ := id V_d
    refine Go.st (S' := T.setTop (mkF m 12 #[.val (.ref d), .val (.ref g), .val (.int (1 : Int32))] [(.int (2 : Int32)), (.int (1 : Int32))])) (fun t kt => own_alen X hx hZ eT Ar7 (len_of S7 M7) rfl (hb hby dLE2_2_11) t kt) ?_
    refine Go.st (S' := T.setTop (mkF m 15 #[.val (.ref d), .val (.ref g), .val (.int (1 : Int32))] [])) (fun t kt => XS.icmpNo X.here hx rfl (hb hby dLE2_2_12) rfl (XT.ii_ge_f (by decide)) kt) ?_
    refine Go.st (S' := T.setTop (mkF m 16 #[.val (.ref d), .val (.ref g), .val (.int (1 : Int32))] [(.ref d)])) (fun t kt => XS.aloadN X.here hx rfl (hb hby dLE2_2_15) rfl rfl kt) ?_
    refine Go.st (S' := T.setTop (mkF m 17 #[.val (.ref d), .val (.ref g), .val (.int (1 : Int32))] [(.int (1 : Int32)), (.ref d)])) (fun t kt => XS.iloadN X.here hx rfl (hb hby dLE2_2_16) rfl kt) ?_
    obtain ⟨cl8, Ar8, q8, S8, M8, H8, G8⟩ := id V_d
    refine Go.st (S' := T.setTop (mkF m 18 #[.val (.ref d), .val (.ref g), .val (.int (1 : Int32))] [(.int x1)])) (fun t kt => X.baloadBytes hx (j := (1 : Int32)) (v := (.int x1)) (by rw [eT]; exact Ar8.1) (State.isArrayOf_alike hZ.alike Ar8.2.1) Ar8.2.2 (inb_of S8 ⟨by decide, by decide⟩) (Has.at H8 (inb_of S8 ⟨by decide, by decide⟩) rfl) (g := (mkF m 17 #[.val (.ref d), .val (.ref g), .val (.int (1 : Int32))] [(.int (1 : Int32)), (.ref d)])) rfl rfl (hb hby dLE2_2_17) t kt) ?_
    refine Go.st (S' := T.setTop (mkF m 19 #[.val (.ref d), .val (.ref g), .val (.int (1 : Int32))] [(.ref g), (.int x1)])) (fun t kt => XS.aloadN X.here hx rfl (hb hby dLE2_2_18) rfl rfl kt) ?_
    refine Go.st (S' := T.setTop (mkF m 20 #[.val (.ref d), .val (.ref g), .val (.int (1 : Int32))] [(.int (1 : Int32)), (.ref g), (.int x1)])) (fun t kt => XS.iloadN X.here hx rfl (hb hby dLE2_2_19) rfl kt) ?_
    obtain ⟨cl9, Ar9, q9, S9, M9, H9, G9⟩ := id V_g
    refine Go.st (S' := T.setTop (mkF m 21 #[.val (.ref d), .val (.ref g), .val (.int (1 : Int32))] [(.int y1), (.int x1)])) (fun t kt => X.baloadBytes hx (j := (1 : Int32)) (v := (.int y1)) (by rw [eT]; exact Ar9.1) (State.isArrayOf_alike hZ.alike Ar9.2.1) Ar9.2.2 (inb_of S9 ⟨by decide, by decide⟩) (Has.at H9 (inb_of S9 ⟨by decide, by decide⟩) rfl) (g := (mkF m 20 #[.val (.ref d), .val (.ref g), .val (.int (1 : Int32))] [(.int (1 : Int32)), (.ref g), (.int x1)])) rfl rfl (hb hby dLE2_2_20) t kt) ?_
    by_cases hc21_10 : x1 = y1
    · refine Go.st (S' := T.setTop (mkF m 26 #[.val (.ref d), .val (.ref g), .val (.int (1 : Int32))] [])) (fun t kt => XS.icmpYes X.here hx rfl (pc0 := 21) (pc' := 26) rfl (hb hby dLE2_2_21) rfl (XT.ii_eq_t hc21_10) (by decide) (by decide) kt) ?_
      refine Go.st (S' := T.setTop (mkF m 29 #[.val (.ref d), .val (.ref g), .val (.int (2 : Int32))] [])) (fun t kt => XT.iincV X.here hx rfl (1 : Int32) (hb hby dLE2_2_26) (by decide) rfl rfl kt) ?_
      refine Go.st (S' := T.setTop (mkF m 9 #[.val (.ref d), .val (.ref g), .val (.int (2 : Int32))] [])) (fun t kt => XS.goto X.here hx rfl (pc0 := 29) (pc' := 9) rfl (hb hby dLE2_2_29) (by decide) (by decide) kt) ?_
      refine Go.st (S' := T.setTop (mkF m 10 #[.val (.ref d), .val (.ref g), .val (.int (2 : Int32))] [(.int (2 : Int32))])) (fun t kt => XS.iloadN X.here hx rfl (hb hby dLE2_2_9) rfl kt) ?_
      refine Go.st (S' := T.setTop (mkF m 11 #[.val (.ref d), .val (.ref g), .val (.int (2 : Int32))] [(.ref d), (.int (2 : Int32))])) (fun t kt => XS.aloadN X.here hx rfl (hb hby dLE2_2_10) rfl rfl kt) ?_
      obtain ⟨cl11, Ar11, q11, S11, M11, H11, G11⟩ := id V_d
      refine Go.st (S' := T.setTop (mkF m 12 #[.val (.ref d), .val (.ref g), .val (.int (2 : Int32))] [(.int (2 : Int32)), (.int (2 : Int32))])) (fun t kt => own_alen X hx hZ eT Ar11 (len_of S11 M11) rfl (hb hby dLE2_2_11) t kt) ?_
      refine Go.st (S' := T.setTop (mkF m 32 #[.val (.ref d), .val (.ref g), .val (.int (2 : Int32))] [])) (fun t kt => XS.icmpYes X.here hx rfl (pc0 := 12) (pc' := 32) rfl (hb hby dLE2_2_12) rfl (XT.ii_ge_t (by decide)) (by decide) (by decide) kt) ?_
      refine Go.st (S' := T.setTop (mkF m 33 #[.val (.ref d), .val (.ref g), .val (.int (2 : Int32))] [(.int (1 : Int32))])) (fun t kt => XS.iconst X.here hx rfl (hb hby dLE2_2_32) kt) ?_
      exact ret_b X hx hlk hret (hb hby dLE2_2_33) (by decide) (by decide) (⟨by show some (Value.int (1 : Int32)) = some (.int r); rw [hr]; simp [hc21_6, hc21_10], N0, eT⟩)
    · refine Go.st (S' := T.setTop (mkF m 24 #[.val (.ref d), .val (.ref g), .val (.int (1 : Int32))] [])) (fun t kt => XS.icmpNo X.here hx rfl (hb hby dLE2_2_21) rfl (XT.ii_eq_f hc21_10) kt) ?_
      refine Go.st (S' := T.setTop (mkF m 25 #[.val (.ref d), .val (.ref g), .val (.int (1 : Int32))] [(.int (0 : Int32))])) (fun t kt => XS.iconst X.here hx rfl (hb hby dLE2_2_24) kt) ?_
      exact ret_b X hx hlk hret (hb hby dLE2_2_25) (by decide) (by decide) (⟨by show some (Value.int (0 : Int32)) = some (.int r); rw [hr]; simp [hc21_6, hc21_10], N0, eT⟩)
  · refine Go.st (S' := T.setTop (mkF m 24 #[.val (.ref d), .val (.ref g), .val (.int (0 : Int32))] [])) (fun t kt => XS.icmpNo X.here hx rfl (hb hby dLE2_2_21) rfl (XT.ii_eq_f hc21_6) kt) ?_
    refine Go.st (S' := T.setTop (mkF m 25 #[.val (.ref d), .val (.ref g), .val (.int (0 : Int32))] [(.int (0 : Int32))])) (fun t kt => XS.iconst X.here hx rfl (hb hby dLE2_2_24) kt) ?_
    exact ret_b X hx hlk hret (hb hby dLE2_2_25) (by decide) (by decide) (⟨by show some (Value.int (0 : Int32)) = some (.int r); rw [hr]; simp [hc21_6], N0, eT⟩)
theorem dEQ2_2_0 : decode jdk_42_method_66_code 0 = .ok (.aload_n 0, 1) := by decide +kernel
theorem dEQ2_2_1 : decode jdk_42_method_66_code 1 = .ok (.aload_n 1, 1) := by decide +kernel
theorem dEQ2_2_2 : decode jdk_42_method_66_code 2 = .ok (.if_acmp .ne 5, 3) := by decide +kernel
theorem dEQ2_2_7 : decode jdk_42_method_66_code 7 = .ok (.aload_n 1, 1) := by decide +kernel
theorem dEQ2_2_8 : decode jdk_42_method_66_code 8 = .ok (.instanceof 10, 3) := by decide +kernel
theorem dEQ2_2_11 : decode jdk_42_method_66_code 11 = .ok (.ifCond .eq 43, 3) := by decide +kernel
theorem dEQ2_2_14 : decode jdk_42_method_66_code 14 = .ok (.aload_n 1, 1) := by decide +kernel
theorem dEQ2_2_15 : decode jdk_42_method_66_code 15 = .ok (.checkcast 10, 3) := by decide +kernel
theorem dEQ2_2_18 : decode jdk_42_method_66_code 18 = .ok (.astore_n 2, 1) := by decide +kernel
theorem dEQ2_2_19 : decode jdk_42_method_66_code 19 = .ok (.getstatic 38, 3) := by decide +kernel
theorem dEQ2_2_22 : decode jdk_42_method_66_code 22 = .ok (.ifCond .eq 14, 3) := by decide +kernel
theorem dEQ2_2_25 : decode jdk_42_method_66_code 25 = .ok (.aload_n 0, 1) := by decide +kernel
theorem dEQ2_2_26 : decode jdk_42_method_66_code 26 = .ok (.getfield 15, 3) := by decide +kernel
theorem dEQ2_2_29 : decode jdk_42_method_66_code 29 = .ok (.aload_n 2, 1) := by decide +kernel
theorem dEQ2_2_30 : decode jdk_42_method_66_code 30 = .ok (.getfield 15, 3) := by decide +kernel
theorem dEQ2_2_33 : decode jdk_42_method_66_code 33 = .ok (.if_icmp .ne 21, 3) := by decide +kernel
theorem dEQ2_2_36 : decode jdk_42_method_66_code 36 = .ok (.aload_n 0, 1) := by decide +kernel
theorem dEQ2_2_37 : decode jdk_42_method_66_code 37 = .ok (.getfield 9, 3) := by decide +kernel
theorem dEQ2_2_40 : decode jdk_42_method_66_code 40 = .ok (.aload_n 2, 1) := by decide +kernel
theorem dEQ2_2_41 : decode jdk_42_method_66_code 41 = .ok (.getfield 9, 3) := by decide +kernel
theorem dEQ2_2_44 : decode jdk_42_method_66_code 44 = .ok (.invokestatic 541, 3) := by decide +kernel
theorem dEQ2_2_47 : decode jdk_42_method_66_code 47 = .ok (.ifCond .eq 7, 3) := by decide +kernel
theorem dEQ2_2_50 : decode jdk_42_method_66_code 50 = .ok (.iconst 1, 1) := by decide +kernel
theorem dEQ2_2_51 : decode jdk_42_method_66_code 51 = .ok (.goto 4, 3) := by decide +kernel
theorem dEQ2_2_54 : decode jdk_42_method_66_code 54 = .ok (.iconst 0, 1) := by decide +kernel
theorem dEQ2_2_55 : decode jdk_42_method_66_code 55 = .ok (.ireturn, 1) := by decide +kernel
theorem ef_rmEQ2_2 (m : MethodId) (a : Addr) (b : Addr) : entryFrame m #[(.ref a), (.ref b)] 3 = mkF m 0 #[.val (.ref a), .val (.ref b), .unset] [] := by first | exact own_entry rfl | (simp [entryFrame, mkF, argsToLocals, Value.category]; done) | rfl
set_option maxRecDepth 65536 in
set_option maxHeartbeats 40000000 in
theorem rmEQ2_2 (l : Launch) (Z : State) (a0 : Array Value) (hw : ∀ d ∈ tables_1, d.before a0 Z = true) (a d b g : Addr) (kd kg : ClassId) (x0 x1 y0 y1 : Int32) (r : Int32) (h0 : Heap) (n0 : Nat) (Z0 : n0 ≤ h0.size) (E1 : Exa Z h0 a "java/lang/String") (F1 : Fld Z h0 a "java/lang/String" "value" "[B" (.ref d)) (G1 : Fld Z h0 a "java/lang/String" "coder" "B" (.int (0 : Int32))) (V1 : Arv Z h0 d kd .byte (2 : Int32) [(.int x0), (.int x1)] (.int (0 : Int32))) (E2 : Exa Z h0 b "java/lang/String") (F2 : Fld Z h0 b "java/lang/String" "value" "[B" (.ref g)) (G2 : Fld Z h0 b "java/lang/String" "coder" "B" (.int (0 : Int32))) (V2 : Arv Z h0 g kg .byte (2 : Int32) [(.int y0), (.int y1)] (.int (0 : Int32))) (hab : a ≠ b) (cs : Int32) (S_cs : Sta Z h0 "java/lang/String" "COMPACT_STRINGS" "Z" (.int cs)) (hcs : ¬ cs = 0) (hr : r = if (some [x0, x1] : Option (List Int32)) = some [y0, y1] then 1 else 0) :
    Pays l (⟨"java/lang/String", "equals", "(Ljava/lang/Object;)Z"⟩ : MethodName) jdk_42_method_66_code 3 (some .boolean) ({ frames := 1, cells := 0, slots := 0, locals := 14 } : Room) Z #[(.ref a), (.ref b)] h0 (fun v h L => v = some (.int r) ∧ Fr n0 L ∧ h = h0) := by
  refine Pays.of (plainFor_of_name pn_java_lang_String) ?_
  intro pP eE sS m below methM cC T hx hby hml hret hlk hZ hown hnm eT X
  replace hown : sS.vm.findClass "java/lang/String" = some m.cls := hown
  have N0 := Fr.nil n0
  refine Go.cast (ef_rmEQ2_2 m a b) ?_
  refine Go.st (S' := T.setTop (mkF m 1 #[.val (.ref a), .val (.ref b), .unset] [(.ref a)])) (fun t kt => XS.aloadN X.here hx rfl (hb hby dEQ2_2_0) rfl rfl kt) ?_
  refine Go.st (S' := T.setTop (mkF m 2 #[.val (.ref a), .val (.ref b), .unset] [(.ref b), (.ref a)])) (fun t kt => XS.aloadN X.here hx rfl (hb hby dEQ2_2_1) rfl rfl kt) ?_
  refine Go.st (S' := T.setTop (mkF m 7 #[.val (.ref a), .val (.ref b), .unset] [])) (fun t kt => XT.acmpYes X.here hx rfl (pc0 := 2) (pc' := 7) rfl (hb hby dEQ2_2_2) rfl rfl rfl (XT.aa_ne_t (fun q => hab (Value.ref.inj q))) (by decide) (by decide) kt) ?_
  refine Go.st (S' := T.setTop (mkF m 8 #[.val (.ref a), .val (.ref b), .unset] [(.ref b)])) (fun t kt => XS.aloadN X.here hx rfl (hb hby dEQ2_2_7) rfl rfl kt) ?_
  obtain ⟨T1, X1, e1, st1⟩ := instY X hx hZ hown (hw _ (List.mem_of_getElem? (i := 87) rfl)) eT (Ins.self E2) (g := (mkF m 8 #[.val (.ref a), .val (.ref b), .unset] [(.ref b)])) rfl rfl (hb hby dEQ2_2_8)
  refine Go.st (S' := T1.setTop (mkF m 11 #[.val (.ref a), .val (.ref b), .unset] [(.int (1 : Int32))])) (fun t kt => st1 t kt) ?_
  refine Go.st (S' := T1.setTop (mkF m 14 #[.val (.ref a), .val (.ref b), .unset] [])) (fun t kt => XS.ifNo X1.here hx rfl (hb hby dEQ2_2_11) rfl (XT.i0_eq_f (by decide)) kt) ?_
  refine Go.st (S' := T1.setTop (mkF m 15 #[.val (.ref a), .val (.ref b), .unset] [(.ref b)])) (fun t kt => XS.aloadN X1.here hx rfl (hb hby dEQ2_2_14) rfl rfl kt) ?_
  obtain ⟨T2, X2, e2, st2⟩ := castY X1 hx hZ hown (hw _ (List.mem_of_getElem? (i := 87) rfl)) e1 (Ins.self E2) (g := (mkF m 15 #[.val (.ref a), .val (.ref b), .unset] [(.ref b)])) rfl rfl (hb hby dEQ2_2_15)
  refine Go.st (S' := T2.setTop (mkF m 18 #[.val (.ref a), .val (.ref b), .unset] [(.ref b)])) (fun t kt => st2 t kt) ?_
  refine Go.st (S' := T2.setTop (mkF m 19 #[.val (.ref a), .val (.ref b), .val (.ref b)] [])) (fun t kt => XS.astoreN X2.here hx rfl (hb hby dEQ2_2_18) rfl rfl rfl kt) ?_
  obtain ⟨T3, X3, e3, st3⟩ := getS X2 hx hZ (host := "") hown (hw _ (List.mem_of_getElem? (i := 59) rfl)) Via.refl e2 S_cs (g := (mkF m 19 #[.val (.ref a), .val (.ref b), .val (.ref b)] [])) rfl (hb hby dEQ2_2_19)
  refine Go.st (S' := T3.setTop (mkF m 22 #[.val (.ref a), .val (.ref b), .val (.ref b)] [(.int cs)])) (fun t kt => st3 t kt) ?_
  refine Go.st (S' := T3.setTop (mkF m 25 #[.val (.ref a), .val (.ref b), .val (.ref b)] [])) (fun t kt => XS.ifNo X3.here hx rfl (hb hby dEQ2_2_22) rfl (XT.i0_eq_f hcs) kt) ?_
  refine Go.st (S' := T3.setTop (mkF m 26 #[.val (.ref a), .val (.ref b), .val (.ref b)] [(.ref a)])) (fun t kt => XS.aloadN X3.here hx rfl (hb hby dEQ2_2_25) rfl rfl kt) ?_
  obtain ⟨T4, X4, e4, st4⟩ := getF X3 hx hZ hown (host := "") (Or.inl (hw _ (List.mem_of_getElem? (i := 71) rfl))) Via.refl e3 G1 (g := (mkF m 26 #[.val (.ref a), .val (.ref b), .val (.ref b)] [(.ref a)])) rfl rfl (hb hby dEQ2_2_26)
  refine Go.st (S' := T4.setTop (mkF m 29 #[.val (.ref a), .val (.ref b), .val (.ref b)] [(.int (0 : Int32))])) (fun t kt => st4 t kt) ?_
  refine Go.st (S' := T4.setTop (mkF m 30 #[.val (.ref a), .val (.ref b), .val (.ref b)] [(.ref b), (.int (0 : Int32))])) (fun t kt => XS.aloadN X4.here hx rfl (hb hby dEQ2_2_29) rfl rfl kt) ?_
  obtain ⟨T5, X5, e5, st5⟩ := getF X4 hx hZ hown (host := "") (Or.inl (hw _ (List.mem_of_getElem? (i := 71) rfl))) Via.refl e4 G2 (g := (mkF m 30 #[.val (.ref a), .val (.ref b), .val (.ref b)] [(.ref b), (.int (0 : Int32))])) rfl rfl (hb hby dEQ2_2_30)
  refine Go.st (S' := T5.setTop (mkF m 33 #[.val (.ref a), .val (.ref b), .val (.ref b)] [(.int (0 : Int32)), (.int (0 : Int32))])) (fun t kt => st5 t kt) ?_
  refine Go.st (S' := T5.setTop (mkF m 36 #[.val (.ref a), .val (.ref b), .val (.ref b)] [])) (fun t kt => XS.icmpNo X5.here hx rfl (hb hby dEQ2_2_33) rfl (XT.ii_ne_f (by decide)) kt) ?_
  refine Go.st (S' := T5.setTop (mkF m 37 #[.val (.ref a), .val (.ref b), .val (.ref b)] [(.ref a)])) (fun t kt => XS.aloadN X5.here hx rfl (hb hby dEQ2_2_36) rfl rfl kt) ?_
  obtain ⟨T6, X6, e6, st6⟩ := getF X5 hx hZ hown (host := "") (Or.inl (hw _ (List.mem_of_getElem? (i := 73) rfl))) Via.refl e5 F1 (g := (mkF m 37 #[.val (.ref a), .val (.ref b), .val (.ref b)] [(.ref a)])) rfl rfl (hb hby dEQ2_2_37)
  refine Go.st (S' := T6.setTop (mkF m 40 #[.val (.ref a), .val (.ref b), .val (.ref b)] [(.ref d)])) (fun t kt => st6 t kt) ?_
  refine Go.st (S' := T6.setTop (mkF m 41 #[.val (.ref a), .val (.ref b), .val (.ref b)] [(.ref b), (.ref d)])) (fun t kt => XS.aloadN X6.here hx rfl (hb hby dEQ2_2_40) rfl rfl kt) ?_
  obtain ⟨T7, X7, e7, st7⟩ := getF X6 hx hZ hown (host := "") (Or.inl (hw _ (List.mem_of_getElem? (i := 73) rfl))) Via.refl e6 F2 (g := (mkF m 41 #[.val (.ref a), .val (.ref b), .val (.ref b)] [(.ref b), (.ref d)])) rfl rfl (hb hby dEQ2_2_41)
  refine Go.st (S' := T7.setTop (mkF m 44 #[.val (.ref a), .val (.ref b), .val (.ref b)] [(.ref g), (.ref d)])) (fun t kt => st7 t kt) ?_
  refine Go.stat X7 hx hZ hown (hw _ (List.mem_of_getElem? (i := 88) rfl)) (hw _ (List.mem_of_getElem? (i := 89) rfl)) (hw _ (List.mem_of_getElem? (i := 90) rfl)) (hw _ (List.mem_of_getElem? (i := 91) rfl)) (by decide) (argsL := [(.ref d), (.ref g)]) (rest := []) (rmLE2_2 l Z a0 hw d g kd kg x0 x1 y0 y1 r h0 n0 Z0 V1 V2 hr) e7 rfl (by rw [hml]; rfl) pd___B_B_Z rfl (hb hby dEQ2_2_44) 0 (Nat.le_refl _) (by decide) (by decide) (by decide) (by decide) ?_
  intro v8 T8 L8 X8 hQ8
  obtain ⟨hv8, N8', e8⟩ := hQ8
  subst hv8
  have N8 := Fr.app N0 N8'
  show Go pP eE below _ (T8.setTop (mkF m 47 #[.val (.ref a), .val (.ref b), .val (.ref b)] [(.int r)]))
  by_cases hc47_9 : r = 0
  · refine Go.st (S' := T8.setTop (mkF m 54 #[.val (.ref a), .val (.ref b), .val (.ref b)] [])) (fun t kt => XS.ifYes X8.here hx rfl (pc0 := 47) (pc' := 54) rfl (hb hby dEQ2_2_47) rfl (XT.i0_eq_t hc47_9) (by decide) (by decide) kt) ?_
    refine Go.st (S' := T8.setTop (mkF m 55 #[.val (.ref a), .val (.ref b), .val (.ref b)] [(.int (0 : Int32))])) (fun t kt => XS.iconst X8.here hx rfl (hb hby dEQ2_2_54) kt) ?_
    exact ret_b X8 hx hlk hret (hb hby dEQ2_2_55) (by decide) (by decide) (⟨by rw [hc47_9]; rfl, N8, e8⟩)
  · refine Go.st (S' := T8.setTop (mkF m 50 #[.val (.ref a), .val (.ref b), .val (.ref b)] [])) (fun t kt => XS.ifNo X8.here hx rfl (hb hby dEQ2_2_47) rfl (XT.i0_eq_f hc47_9) kt) ?_
    refine Go.st (S' := T8.setTop (mkF m 51 #[.val (.ref a), .val (.ref b), .val (.ref b)] [(.int (1 : Int32))])) (fun t kt => XS.iconst X8.here hx rfl (hb hby dEQ2_2_50) kt) ?_
    refine Go.st (S' := T8.setTop (mkF m 55 #[.val (.ref a), .val (.ref b), .val (.ref b)] [(.int (1 : Int32))])) (fun t kt => XS.goto X8.here hx rfl (pc0 := 51) (pc' := 55) rfl (hb hby dEQ2_2_51) (by decide) (by decide) kt) ?_
    exact ret_b X8 hx hlk hret (hb hby dEQ2_2_55) (by decide) (by decide) (⟨by rw [own_r01 hr hc47_9]; rfl, N8, e8⟩)
theorem rmEQ (l : Launch) (Z : State) (a0 : Array Value) (hw : ∀ d ∈ tables_1, d.before a0 Z = true) (a : Addr) (u : Value) (o1 o2 : Option (List Int32)) (h0 : Heap) (n0 : Nat) (Z0 : n0 ≤ h0.size) (S1 : StrIs Z h0 (.ref a) o1) (S2 : StrIs Z h0 u o2) (hab : u ≠ .ref a) (cs : Int32) (S_cs : Sta Z h0 "java/lang/String" "COMPACT_STRINGS" "Z" (.int cs)) (hcs : ¬ cs = 0) :
    Pays l (⟨"java/lang/String", "equals", "(Ljava/lang/Object;)Z"⟩ : MethodName) jdk_42_method_66_code 3 (some .boolean) ({ frames := 1, cells := 0, slots := 0, locals := 14 } : Room) Z #[.ref a, u] h0 (fun v h L => v = some (.int (if o1 = o2 then 1 else 0)) ∧ Fr n0 L ∧ h = h0) := by
  rcases S1 with ⟨e, -⟩ | ⟨a', e, S1⟩
  · cases e
  cases e
  rcases S1 with ⟨rfl, d, kd, E1, F1, G1, V1⟩ | ⟨x0, rfl, d, kd, E1, F1, G1, V1⟩ | ⟨x0, x1, rfl, d, kd, E1, F1, G1, V1⟩
  · rcases S2 with ⟨rfl, rfl⟩ | ⟨b, rfl, ⟨rfl, g, kg, E2, F2, G2, V2⟩ | ⟨y0, rfl, g, kg, E2, F2, G2, V2⟩ | ⟨y0, y1, rfl, g, kg, E2, F2, G2, V2⟩⟩
    · exact rmEQ0_n l Z a0 hw a d kd  _ h0 n0 Z0 E1 F1 G1 V1 cs S_cs hcs rfl
    · exact rmEQ0_0 l Z a0 hw a d b g kd kg   _ h0 n0 Z0 E1 F1 G1 V1 E2 F2 G2 V2 (fun q => hab (by rw [q])) cs S_cs hcs rfl
    · exact rmEQ0_1 l Z a0 hw a d b g kd kg  y0 _ h0 n0 Z0 E1 F1 G1 V1 E2 F2 G2 V2 (fun q => hab (by rw [q])) cs S_cs hcs rfl
    · exact rmEQ0_2 l Z a0 hw a d b g kd kg  y0 y1 _ h0 n0 Z0 E1 F1 G1 V1 E2 F2 G2 V2 (fun q => hab (by rw [q])) cs S_cs hcs rfl
  · rcases S2 with ⟨rfl, rfl⟩ | ⟨b, rfl, ⟨rfl, g, kg, E2, F2, G2, V2⟩ | ⟨y0, rfl, g, kg, E2, F2, G2, V2⟩ | ⟨y0, y1, rfl, g, kg, E2, F2, G2, V2⟩⟩
    · exact rmEQ1_n l Z a0 hw a d kd x0 _ h0 n0 Z0 E1 F1 G1 V1 cs S_cs hcs rfl
    · exact rmEQ1_0 l Z a0 hw a d b g kd kg x0  _ h0 n0 Z0 E1 F1 G1 V1 E2 F2 G2 V2 (fun q => hab (by rw [q])) cs S_cs hcs rfl
    · exact rmEQ1_1 l Z a0 hw a d b g kd kg x0 y0 _ h0 n0 Z0 E1 F1 G1 V1 E2 F2 G2 V2 (fun q => hab (by rw [q])) cs S_cs hcs rfl
    · exact rmEQ1_2 l Z a0 hw a d b g kd kg x0 y0 y1 _ h0 n0 Z0 E1 F1 G1 V1 E2 F2 G2 V2 (fun q => hab (by rw [q])) cs S_cs hcs rfl
  · rcases S2 with ⟨rfl, rfl⟩ | ⟨b, rfl, ⟨rfl, g, kg, E2, F2, G2, V2⟩ | ⟨y0, rfl, g, kg, E2, F2, G2, V2⟩ | ⟨y0, y1, rfl, g, kg, E2, F2, G2, V2⟩⟩
    · exact rmEQ2_n l Z a0 hw a d kd x0 x1 _ h0 n0 Z0 E1 F1 G1 V1 cs S_cs hcs rfl
    · exact rmEQ2_0 l Z a0 hw a d b g kd kg x0 x1  _ h0 n0 Z0 E1 F1 G1 V1 E2 F2 G2 V2 (fun q => hab (by rw [q])) cs S_cs hcs rfl
    · exact rmEQ2_1 l Z a0 hw a d b g kd kg x0 x1 y0 _ h0 n0 Z0 E1 F1 G1 V1 E2 F2 G2 V2 (fun q => hab (by rw [q])) cs S_cs hcs rfl
    · exact rmEQ2_2 l Z a0 hw a d b g kd kg x0 x1 y0 y1 _ h0 n0 Z0 E1 F1 G1 V1 E2 F2 G2 V2 (fun q => hab (by rw [q])) cs S_cs hcs rfl
theorem dK5_1_0 : decode jdk_52_method_21_code 0 = .ok (.iconst 0, 1) := by decide +kernel
theorem dK5_1_1 : decode jdk_52_method_21_code 1 = .ok (.istore 5, 2) := by decide +kernel
theorem dK5_1_3 : decode jdk_52_method_21_code 3 = .ok (.iload 5, 2) := by decide +kernel
theorem dK5_1_5 : decode jdk_52_method_21_code 5 = .ok (.iload 4, 2) := by decide +kernel
theorem dK5_1_7 : decode jdk_52_method_21_code 7 = .ok (.if_icmp .ge 37, 3) := by decide +kernel
theorem dK5_1_10 : decode jdk_52_method_21_code 10 = .ok (.aload_n 0, 1) := by decide +kernel
theorem dK5_1_11 : decode jdk_52_method_21_code 11 = .ok (.iload_n 1, 1) := by decide +kernel
theorem dK5_1_12 : decode jdk_52_method_21_code 12 = .ok (.caload, 1) := by decide +kernel
theorem dK5_1_13 : decode jdk_52_method_21_code 13 = .ok (.istore 6, 2) := by decide +kernel
theorem dK5_1_15 : decode jdk_52_method_21_code 15 = .ok (.iload 6, 2) := by decide +kernel
theorem dK5_1_17 : decode jdk_52_method_21_code 17 = .ok (.sipush 255, 3) := by decide +kernel
theorem dK5_1_20 : decode jdk_52_method_21_code 20 = .ok (.if_icmp .le 6, 3) := by decide +kernel
theorem dK5_1_26 : decode jdk_52_method_21_code 26 = .ok (.aload_n 2, 1) := by decide +kernel
theorem dK5_1_27 : decode jdk_52_method_21_code 27 = .ok (.iload_n 3, 1) := by decide +kernel
theorem dK5_1_28 : decode jdk_52_method_21_code 28 = .ok (.iload 6, 2) := by decide +kernel
theorem dK5_1_30 : decode jdk_52_method_21_code 30 = .ok (.i2b, 1) := by decide +kernel
theorem dK5_1_31 : decode jdk_52_method_21_code 31 = .ok (.bastore, 1) := by decide +kernel
theorem dK5_1_32 : decode jdk_52_method_21_code 32 = .ok (.iinc 1 1, 3) := by decide +kernel
theorem dK5_1_35 : decode jdk_52_method_21_code 35 = .ok (.iinc 3 1, 3) := by decide +kernel
theorem dK5_1_38 : decode jdk_52_method_21_code 38 = .ok (.iinc 5 1, 3) := by decide +kernel
theorem dK5_1_41 : decode jdk_52_method_21_code 41 = .ok (.goto (-38), 3) := by decide +kernel
theorem dK5_1_44 : decode jdk_52_method_21_code 44 = .ok (.iload 4, 2) := by decide +kernel
theorem dK5_1_46 : decode jdk_52_method_21_code 46 = .ok (.ireturn, 1) := by decide +kernel
theorem pn_java_lang_StringUTF16 : plainName "java/lang/StringUTF16" = true := by first | (simp [plainName, overriddenIn]; done) | decide +kernel
theorem ef_rmK5_1 (m : MethodId) (ca : Addr) (d : Addr) : entryFrame m #[(.ref ca), (.int (0 : Int32)), (.ref d), (.int (0 : Int32)), (.int (1 : Int32))] 7 = mkF m 0 #[.val (.ref ca), .val (.int (0 : Int32)), .val (.ref d), .val (.int (0 : Int32)), .val (.int (1 : Int32)), .unset, .unset] [] := by first | exact own_entry rfl | (simp [entryFrame, mkF, argsToLocals, Value.category]; done) | rfl
set_option maxRecDepth 65536 in
set_option maxHeartbeats 40000000 in
theorem rmK5_1 (l : Launch) (Z : State) (a0 : Array Value) (hw : ∀ d ∈ tables_1, d.before a0 Z = true) (ca d : Addr) (kc kd : ClassId) (x0 : Int32) (h0 : Heap) (n0 : Nat) (Z0 : n0 ≤ h0.size) (V_c : Arv Z h0 ca kc .char (1 : Int32) [(.int x0)] (.int (0 : Int32))) (V_d : Arv Z h0 d kd .byte (1 : Int32) [(.int (0 : Int32))] (.int (0 : Int32))) (hcd : ca ≠ d) (hd : n0 ≤ d) (hx0 : ¬ (255 : Int32) < x0) :
    Pays l (⟨"java/lang/StringUTF16", "compress", "([CI[BII)I"⟩ : MethodName) jdk_52_method_21_code 7 (some .int) ({ frames := 0, cells := 0, slots := 0, locals := 0 } : Room) Z #[(.ref ca), (.int (0 : Int32)), (.ref d), (.int (0 : Int32)), (.int (1 : Int32))] h0 (fun v h L => v = some (.int (1 : Int32)) ∧ Fr n0 L ∧ Keep h0 h [d] ∧ Arv Z h d kd .byte (1 : Int32) [(.int (nar .byte (x0).toInt8.toInt32))] (.int (0 : Int32))) := by
  refine Pays.of (plainFor_of_name pn_java_lang_StringUTF16) ?_
  intro pP eE sS m below methM cC T hx hby hml hret hlk hZ hown hnm eT X
  replace hown : sS.vm.findClass "java/lang/StringUTF16" = some m.cls := hown
  have N0 := Fr.nil n0
  have K0 := Keep.refl h0 [d]
  refine Go.cast (ef_rmK5_1 m ca d) ?_
  refine Go.st (S' := T.setTop (mkF m 1 #[.val (.ref ca), .val (.int (0 : Int32)), .val (.ref d), .val (.int (0 : Int32)), .val (.int (1 : Int32)), .unset, .unset] [(.int (0 : Int32))])) (fun t kt => XS.iconst X.here hx rfl (hb hby dK5_1_0) kt) ?_
  refine Go.st (S' := T.setTop (mkF m 3 #[.val (.ref ca), .val (.int (0 : Int32)), .val (.ref d), .val (.int (0 : Int32)), .val (.int (1 : Int32)), .val (.int (0 : Int32)), .unset] [])) (fun t kt => XS.istore X.here hx rfl (hb hby dK5_1_1) rfl rfl kt) ?_
  refine Go.st (S' := T.setTop (mkF m 5 #[.val (.ref ca), .val (.int (0 : Int32)), .val (.ref d), .val (.int (0 : Int32)), .val (.int (1 : Int32)), .val (.int (0 : Int32)), .unset] [(.int (0 : Int32))])) (fun t kt => XS.iload X.here hx rfl (hb hby dK5_1_3) rfl kt) ?_
  refine Go.st (S' := T.setTop (mkF m 7 #[.val (.ref ca), .val (.int (0 : Int32)), .val (.ref d), .val (.int (0 : Int32)), .val (.int (1 : Int32)), .val (.int (0 : Int32)), .unset] [(.int (1 : Int32)), (.int (0 : Int32))])) (fun t kt => XS.iload X.here hx rfl (hb hby dK5_1_5) rfl kt) ?_
  refine Go.st (S' := T.setTop (mkF m 10 #[.val (.ref ca), .val (.int (0 : Int32)), .val (.ref d), .val (.int (0 : Int32)), .val (.int (1 : Int32)), .val (.int (0 : Int32)), .unset] [])) (fun t kt => XS.icmpNo X.here hx rfl (hb hby dK5_1_7) rfl (XT.ii_ge_f (by decide)) kt) ?_
  refine Go.st (S' := T.setTop (mkF m 11 #[.val (.ref ca), .val (.int (0 : Int32)), .val (.ref d), .val (.int (0 : Int32)), .val (.int (1 : Int32)), .val (.int (0 : Int32)), .unset] [(.ref ca)])) (fun t kt => XS.aloadN X.here hx rfl (hb hby dK5_1_10) rfl rfl kt) ?_
  refine Go.st (S' := T.setTop (mkF m 12 #[.val (.ref ca), .val (.int (0 : Int32)), .val (.ref d), .val (.int (0 : Int32)), .val (.int (1 : Int32)), .val (.int (0 : Int32)), .unset] [(.int (0 : Int32)), (.ref ca)])) (fun t kt => XS.iloadN X.here hx rfl (hb hby dK5_1_11) rfl kt) ?_
  obtain ⟨cl1, Ar1, q1, S1, M1, H1, G1⟩ := id V_c
  refine Go.st (S' := T.setTop (mkF m 13 #[.val (.ref ca), .val (.int (0 : Int32)), .val (.ref d), .val (.int (0 : Int32)), .val (.int (1 : Int32)), .val (.int (0 : Int32)), .unset] [(.int x0)])) (fun t kt => X.caload hx (j := (0 : Int32)) (v := (.int x0)) (by rw [eT]; exact Ar1.1) (State.isArrayOf_alike hZ.alike Ar1.2.1) Ar1.2.2 (inb_of S1 ⟨by decide, by decide⟩) (Has.at H1 (inb_of S1 ⟨by decide, by decide⟩) rfl) (g := (mkF m 12 #[.val (.ref ca), .val (.int (0 : Int32)), .val (.ref d), .val (.int (0 : Int32)), .val (.int (1 : Int32)), .val (.int (0 : Int32)), .unset] [(.int (0 : Int32)), (.ref ca)])) rfl rfl (hb hby dK5_1_12) t kt) ?_
  refine Go.st (S' := T.setTop (mkF m 15 #[.val (.ref ca), .val (.int (0 : Int32)), .val (.ref d), .val (.int (0 : Int32)), .val (.int (1 : Int32)), .val (.int (0 : Int32)), .val (.int x0)] [])) (fun t kt => XS.istore X.here hx rfl (hb hby dK5_1_13) rfl rfl kt) ?_
  refine Go.st (S' := T.setTop (mkF m 17 #[.val (.ref ca), .val (.int (0 : Int32)), .val (.ref d), .val (.int (0 : Int32)), .val (.int (1 : Int32)), .val (.int (0 : Int32)), .val (.int x0)] [(.int x0)])) (fun t kt => XS.iload X.here hx rfl (hb hby dK5_1_15) rfl kt) ?_
  refine Go.st (S' := T.setTop (mkF m 20 #[.val (.ref ca), .val (.int (0 : Int32)), .val (.ref d), .val (.int (0 : Int32)), .val (.int (1 : Int32)), .val (.int (0 : Int32)), .val (.int x0)] [(.int (255 : Int32)), (.int x0)])) (fun t kt => XT.sipushV X.here hx rfl (255 : Int32) (hb hby dK5_1_17) (by decide) kt) ?_
  refine Go.st (S' := T.setTop (mkF m 26 #[.val (.ref ca), .val (.int (0 : Int32)), .val (.ref d), .val (.int (0 : Int32)), .val (.int (1 : Int32)), .val (.int (0 : Int32)), .val (.int x0)] [])) (fun t kt => XS.icmpYes X.here hx rfl (pc0 := 20) (pc' := 26) rfl (hb hby dK5_1_20) rfl (XT.ii_le_t hx0) (by decide) (by decide) kt) ?_
  refine Go.st (S' := T.setTop (mkF m 27 #[.val (.ref ca), .val (.int (0 : Int32)), .val (.ref d), .val (.int (0 : Int32)), .val (.int (1 : Int32)), .val (.int (0 : Int32)), .val (.int x0)] [(.ref d)])) (fun t kt => XS.aloadN X.here hx rfl (hb hby dK5_1_26) rfl rfl kt) ?_
  refine Go.st (S' := T.setTop (mkF m 28 #[.val (.ref ca), .val (.int (0 : Int32)), .val (.ref d), .val (.int (0 : Int32)), .val (.int (1 : Int32)), .val (.int (0 : Int32)), .val (.int x0)] [(.int (0 : Int32)), (.ref d)])) (fun t kt => XS.iloadN X.here hx rfl (hb hby dK5_1_27) rfl kt) ?_
  refine Go.st (S' := T.setTop (mkF m 30 #[.val (.ref ca), .val (.int (0 : Int32)), .val (.ref d), .val (.int (0 : Int32)), .val (.int (1 : Int32)), .val (.int (0 : Int32)), .val (.int x0)] [(.int x0), (.int (0 : Int32)), (.ref d)])) (fun t kt => XS.iload X.here hx rfl (hb hby dK5_1_28) rfl kt) ?_
  refine Go.st (S' := T.setTop (mkF m 31 #[.val (.ref ca), .val (.int (0 : Int32)), .val (.ref d), .val (.int (0 : Int32)), .val (.int (1 : Int32)), .val (.int (0 : Int32)), .val (.int x0)] [(.int (x0).toInt8.toInt32), (.int (0 : Int32)), (.ref d)])) (fun t kt => XT.i2b X.here hx rfl (hb hby dK5_1_30) rfl kt) ?_
  obtain ⟨cl2, Ar2, q2, S2, M2, H2, G2⟩ := id V_d
  obtain ⟨T2, h2, X2, e2, W2, st2⟩ := stB X hx hZ eT Ar2 (j := (0 : Int32)) (inb_of S2 ⟨by decide, by decide⟩)  (g := (mkF m 31 #[.val (.ref ca), .val (.int (0 : Int32)), .val (.ref d), .val (.int (0 : Int32)), .val (.int (1 : Int32)), .val (.int (0 : Int32)), .val (.int x0)] [(.int (x0).toInt8.toInt32), (.int (0 : Int32)), (.ref d)])) rfl rfl (hb hby dK5_1_31)
  have V2 : Arv Z h2 d kd .byte (1 : Int32) [(.int (nar .byte (x0).toInt8.toInt32))] (.int (0 : Int32)) := Arv.set Ar2 q2 S2 M2 H2 G2 (fits_nar_byte _) W2 0 rfl (Nat.le_of_ble_eq_true rfl)
  have N2 := Fr.snoc X2 N0 hd
  have Z2 : n0 ≤ h2.size := by rw [Wr.size W2]; exact Z0
  have K2 := Keep.wr K0 W2 (Or.inl (List.mem_of_getElem? (i := 0) rfl))
  refine Go.st (S' := T2.setTop (mkF m 32 #[.val (.ref ca), .val (.int (0 : Int32)), .val (.ref d), .val (.int (0 : Int32)), .val (.int (1 : Int32)), .val (.int (0 : Int32)), .val (.int x0)] [])) (fun t kt => st2 t kt) ?_
  refine Go.st (S' := T2.setTop (mkF m 35 #[.val (.ref ca), .val (.int (1 : Int32)), .val (.ref d), .val (.int (0 : Int32)), .val (.int (1 : Int32)), .val (.int (0 : Int32)), .val (.int x0)] [])) (fun t kt => XT.iincV X2.here hx rfl (1 : Int32) (hb hby dK5_1_32) (by decide) rfl rfl kt) ?_
  refine Go.st (S' := T2.setTop (mkF m 38 #[.val (.ref ca), .val (.int (1 : Int32)), .val (.ref d), .val (.int (1 : Int32)), .val (.int (1 : Int32)), .val (.int (0 : Int32)), .val (.int x0)] [])) (fun t kt => XT.iincV X2.here hx rfl (1 : Int32) (hb hby dK5_1_35) (by decide) rfl rfl kt) ?_
  refine Go.st (S' := T2.setTop (mkF m 41 #[.val (.ref ca), .val (.int (1 : Int32)), .val (.ref d), .val (.int (1 : Int32)), .val (.int (1 : Int32)), .val (.int (1 : Int32)), .val (.int x0)] [])) (fun t kt => XT.iincV X2.here hx rfl (1 : Int32) (hb hby dK5_1_38) (by decide) rfl rfl kt) ?_
  refine Go.st (S' := T2.setTop (mkF m 3 #[.val (.ref ca), .val (.int (1 : Int32)), .val (.ref d), .val (.int (1 : Int32)), .val (.int (1 : Int32)), .val (.int (1 : Int32)), .val (.int x0)] [])) (fun t kt => XS.goto X2.here hx rfl (pc0 := 41) (pc' := 3) rfl (hb hby dK5_1_41) (by decide) (by decide) kt) ?_
  refine Go.st (S' := T2.setTop (mkF m 5 #[.val (.ref ca), .val (.int (1 : Int32)), .val (.ref d), .val (.int (1 : Int32)), .val (.int (1 : Int32)), .val (.int (1 : Int32)), .val (.int x0)] [(.int (1 : Int32))])) (fun t kt => XS.iload X2.here hx rfl (hb hby dK5_1_3) rfl kt) ?_
  refine Go.st (S' := T2.setTop (mkF m 7 #[.val (.ref ca), .val (.int (1 : Int32)), .val (.ref d), .val (.int (1 : Int32)), .val (.int (1 : Int32)), .val (.int (1 : Int32)), .val (.int x0)] [(.int (1 : Int32)), (.int (1 : Int32))])) (fun t kt => XS.iload X2.here hx rfl (hb hby dK5_1_5) rfl kt) ?_
  refine Go.st (S' := T2.setTop (mkF m 44 #[.val (.ref ca), .val (.int (1 : Int32)), .val (.ref d), .val (.int (1 : Int32)), .val (.int (1 : Int32)), .val (.int (1 : Int32)), .val (.int x0)] [])) (fun t kt => XS.icmpYes X2.here hx rfl (pc0 := 7) (pc' := 44) rfl (hb hby dK5_1_7) rfl (XT.ii_ge_t (by decide)) (by decide) (by decide) kt) ?_
  refine Go.st (S' := T2.setTop (mkF m 46 #[.val (.ref ca), .val (.int (1 : Int32)), .val (.ref d), .val (.int (1 : Int32)), .val (.int (1 : Int32)), .val (.int (1 : Int32)), .val (.int x0)] [(.int (1 : Int32))])) (fun t kt => XS.iload X2.here hx rfl (hb hby dK5_1_44) rfl kt) ?_
  exact ret_i X2 hx hlk hret (hb hby dK5_1_46) (by decide) (by decide) (by rw [e2]; exact ⟨rfl, N2, K2, V2⟩)
theorem dK3_1_0 : decode jdk_52_method_16_code 0 = .ok (.iload_n 2, 1) := by decide +kernel
theorem dK3_1_1 : decode jdk_52_method_16_code 1 = .ok (.newarray .byte, 2) := by decide +kernel
theorem dK3_1_3 : decode jdk_52_method_16_code 3 = .ok (.astore_n 3, 1) := by decide +kernel
theorem dK3_1_4 : decode jdk_52_method_16_code 4 = .ok (.aload_n 0, 1) := by decide +kernel
theorem dK3_1_5 : decode jdk_52_method_16_code 5 = .ok (.iload_n 1, 1) := by decide +kernel
theorem dK3_1_6 : decode jdk_52_method_16_code 6 = .ok (.aload_n 3, 1) := by decide +kernel
theorem dK3_1_7 : decode jdk_52_method_16_code 7 = .ok (.iconst 0, 1) := by decide +kernel
theorem dK3_1_8 : decode jdk_52_method_16_code 8 = .ok (.iload_n 2, 1) := by decide +kernel
theorem dK3_1_9 : decode jdk_52_method_16_code 9 = .ok (.invokestatic 115, 3) := by decide +kernel
theorem dK3_1_12 : decode jdk_52_method_16_code 12 = .ok (.istore 4, 2) := by decide +kernel
theorem dK3_1_14 : decode jdk_52_method_16_code 14 = .ok (.iload 4, 2) := by decide +kernel
theorem dK3_1_16 : decode jdk_52_method_16_code 16 = .ok (.iload_n 2, 1) := by decide +kernel
theorem dK3_1_17 : decode jdk_52_method_16_code 17 = .ok (.if_icmp .eq 40, 3) := by decide +kernel
theorem dK3_1_57 : decode jdk_52_method_16_code 57 = .ok (.aload_n 3, 1) := by decide +kernel
theorem dK3_1_58 : decode jdk_52_method_16_code 58 = .ok (.areturn, 1) := by decide +kernel
theorem pd___CI_BII_I : parseMethodDescriptor "([CI[BII)I" = some ⟨[(.array .char), .int, (.array .byte), .int, .int], some .int⟩ := by decide +kernel
theorem ef_rmK3_1 (m : MethodId) (ca : Addr) : entryFrame m #[(.ref ca), (.int (0 : Int32)), (.int (1 : Int32))] 6 = mkF m 0 #[.val (.ref ca), .val (.int (0 : Int32)), .val (.int (1 : Int32)), .unset, .unset, .unset] [] := by first | exact own_entry rfl | (simp [entryFrame, mkF, argsToLocals, Value.category]; done) | rfl
set_option maxRecDepth 65536 in
set_option maxHeartbeats 40000000 in
theorem rmK3_1 (l : Launch) (Z : State) (a0 : Array Value) (hw : ∀ d ∈ tables_1, d.before a0 Z = true) (ca : Addr) (kc : ClassId) (x0 : Int32) (h0 : Heap) (n0 : Nat) (Z0 : n0 ≤ h0.size) (V_c : Arv Z h0 ca kc .char (1 : Int32) [(.int x0)] (.int (0 : Int32))) (hx0 : ¬ (255 : Int32) < x0) :
    Pays l (⟨"java/lang/StringUTF16", "compress", "([CII)[B"⟩ : MethodName) jdk_52_method_16_code 6 (some (.array .byte)) ({ frames := 1, cells := 1, slots := 1, locals := 18 } : Room) Z #[(.ref ca), (.int (0 : Int32)), (.int (1 : Int32))] h0 (fun v h L => ∃ d k, v = some (.ref d) ∧ Fr n0 L ∧ Keep h0 h [] ∧ h0.size ≤ d ∧ n0 ≤ d ∧ Arv Z h d k .byte (1 : Int32) [(.int (nar .byte (x0).toInt8.toInt32))] (.int (0 : Int32))) := by
  refine Pays.of (plainFor_of_name pn_java_lang_StringUTF16) ?_
  intro pP eE sS m below methM cC T hx hby hml hret hlk hZ hown hnm eT X
  replace hown : sS.vm.findClass "java/lang/StringUTF16" = some m.cls := hown
  have N0 := Fr.nil n0
  have K0 := Keep.refl h0 ([] : List Addr)
  refine Go.cast (ef_rmK3_1 m ca) ?_
  refine Go.st (S' := T.setTop (mkF m 1 #[.val (.ref ca), .val (.int (0 : Int32)), .val (.int (1 : Int32)), .unset, .unset, .unset] [(.int (1 : Int32))])) (fun t kt => XS.iloadN X.here hx rfl (hb hby dK3_1_0) rfl kt) ?_
  obtain ⟨T1, h1, k1, X1, e1, E1, A1, st1⟩ := newP X hx hZ (hw _ (List.mem_of_getElem? (i := 64) rfl)) eT (g := (mkF m 1 #[.val (.ref ca), .val (.int (0 : Int32)), .val (.int (1 : Int32)), .unset, .unset, .unset] [(.int (1 : Int32))])) rfl (hb hby dK3_1_1) rfl (by decide) (cap := 1) (by decide) (by decide) (by decide) (by decide)
  obtain ⟨a1, g1⟩ : ∃ z, z = h0.size := ⟨_, rfl⟩
  rw [← g1] at A1 st1
  have V1 : Arv Z h1 a1 k1 .byte (1 : Int32) [(.int (0 : Int32))] (.int (0 : Int32)) := Arv.pad (Arv.new A1 (by decide)) (pad_rep [] _ 1)
  have Z1 : n0 ≤ h1.size := Nat.le_trans Z0 E1.1
  have K1 := Keep.ext K0 E1
  have sz_a1 : h0.size ≤ a1 := Nat.le_trans K0.1 (Nat.le_of_eq g1.symm)
  refine Go.st (S' := T1.setTop (mkF m 3 #[.val (.ref ca), .val (.int (0 : Int32)), .val (.int (1 : Int32)), .unset, .unset, .unset] [(.ref a1)])) (fun t kt => st1 t kt) ?_
  refine Go.st (S' := T1.setTop (mkF m 4 #[.val (.ref ca), .val (.int (0 : Int32)), .val (.int (1 : Int32)), .val (.ref a1), .unset, .unset] [])) (fun t kt => XS.astoreN X1.here hx rfl (hb hby dK3_1_3) rfl rfl rfl kt) ?_
  refine Go.st (S' := T1.setTop (mkF m 5 #[.val (.ref ca), .val (.int (0 : Int32)), .val (.int (1 : Int32)), .val (.ref a1), .unset, .unset] [(.ref ca)])) (fun t kt => XS.aloadN X1.here hx rfl (hb hby dK3_1_4) rfl rfl kt) ?_
  refine Go.st (S' := T1.setTop (mkF m 6 #[.val (.ref ca), .val (.int (0 : Int32)), .val (.int (1 : Int32)), .val (.ref a1), .unset, .unset] [(.int (0 : Int32)), (.ref ca)])) (fun t kt => XS.iloadN X1.here hx rfl (hb hby dK3_1_5) rfl kt) ?_
  refine Go.st (S' := T1.setTop (mkF m 7 #[.val (.ref ca), .val (.int (0 : Int32)), .val (.int (1 : Int32)), .val (.ref a1), .unset, .unset] [(.ref a1), (.int (0 : Int32)), (.ref ca)])) (fun t kt => XS.aloadN X1.here hx rfl (hb hby dK3_1_6) rfl rfl kt) ?_
  refine Go.st (S' := T1.setTop (mkF m 8 #[.val (.ref ca), .val (.int (0 : Int32)), .val (.int (1 : Int32)), .val (.ref a1), .unset, .unset] [(.int (0 : Int32)), (.ref a1), (.int (0 : Int32)), (.ref ca)])) (fun t kt => XS.iconst X1.here hx rfl (hb hby dK3_1_7) kt) ?_
  refine Go.st (S' := T1.setTop (mkF m 9 #[.val (.ref ca), .val (.int (0 : Int32)), .val (.int (1 : Int32)), .val (.ref a1), .unset, .unset] [(.int (1 : Int32)), (.int (0 : Int32)), (.ref a1), (.int (0 : Int32)), (.ref ca)])) (fun t kt => XS.iloadN X1.here hx rfl (hb hby dK3_1_8) rfl kt) ?_
  have f2 := (V_c.ext E1)
  refine Go.stat X1 hx hZ hown (hw _ (List.mem_of_getElem? (i := 65) rfl)) (hw _ (List.mem_of_getElem? (i := 66) rfl)) (hw _ (List.mem_of_getElem? (i := 62) rfl)) (hw _ (List.mem_of_getElem? (i := 67) rfl)) (by decide) (argsL := [(.ref ca), (.int (0 : Int32)), (.ref a1), (.int (0 : Int32)), (.int (1 : Int32))]) (rest := []) (rmK5_1 l Z a0 hw ca a1 kc k1 x0 h1 n0 Z1 f2 V1 (Nat.ne_of_lt (by rw [g1]; exact V_c.lt)) (Nat.le_trans Z0 (Nat.le_of_eq g1.symm)) hx0) e1 rfl (by rw [hml]; rfl) pd___CI_BII_I rfl (hb hby dK3_1_9) 0 (Nat.le_refl _) (by decide) (by decide) (by decide) (by decide) ?_
  intro v3 T3 L3 X3 hQ3
  obtain ⟨hv3, N3', K3', f3_0⟩ := hQ3
  subst hv3
  have N3 := Fr.app N0 N3'
  have Z3 : n0 ≤ T3.heap.size := Nat.le_trans Z1 K3'.1
  have eh3 : T3.heap = T3.heap := rfl
  have K3 := Keep.trans K1 K3' (allS (Or.inr sz_a1) all0)
  show Go pP eE below _ (T3.setTop (mkF m 12 #[.val (.ref ca), .val (.int (0 : Int32)), .val (.int (1 : Int32)), .val (.ref a1), .unset, .unset] [(.int (1 : Int32))]))
  refine Go.st (S' := T3.setTop (mkF m 14 #[.val (.ref ca), .val (.int (0 : Int32)), .val (.int (1 : Int32)), .val (.ref a1), .val (.int (1 : Int32)), .unset] [])) (fun t kt => XS.istore X3.here hx rfl (hb hby dK3_1_12) rfl rfl kt) ?_
  refine Go.st (S' := T3.setTop (mkF m 16 #[.val (.ref ca), .val (.int (0 : Int32)), .val (.int (1 : Int32)), .val (.ref a1), .val (.int (1 : Int32)), .unset] [(.int (1 : Int32))])) (fun t kt => XS.iload X3.here hx rfl (hb hby dK3_1_14) rfl kt) ?_
  refine Go.st (S' := T3.setTop (mkF m 17 #[.val (.ref ca), .val (.int (0 : Int32)), .val (.int (1 : Int32)), .val (.ref a1), .val (.int (1 : Int32)), .unset] [(.int (1 : Int32)), (.int (1 : Int32))])) (fun t kt => XS.iloadN X3.here hx rfl (hb hby dK3_1_16) rfl kt) ?_
  refine Go.st (S' := T3.setTop (mkF m 57 #[.val (.ref ca), .val (.int (0 : Int32)), .val (.int (1 : Int32)), .val (.ref a1), .val (.int (1 : Int32)), .unset] [])) (fun t kt => XS.icmpYes X3.here hx rfl (pc0 := 17) (pc' := 57) rfl (hb hby dK3_1_17) rfl (XT.ii_eq_t (by decide)) (by decide) (by decide) kt) ?_
  refine Go.st (S' := T3.setTop (mkF m 58 #[.val (.ref ca), .val (.int (0 : Int32)), .val (.int (1 : Int32)), .val (.ref a1), .val (.int (1 : Int32)), .unset] [(.ref a1)])) (fun t kt => XS.aloadN X3.here hx rfl (hb hby dK3_1_57) rfl rfl kt) ?_
  exact ret_a X3 hx hlk hret rfl rfl (hb hby dK3_1_58) (by decide) (by decide) (⟨_, _, rfl, N3, K3, sz_a1, (Nat.le_trans Z0 (Nat.le_of_eq g1.symm)), f3_0⟩)
theorem dKF_1_0 : decode jdk_52_method_15_code 0 = .ok (.iload_n 1, 1) := by decide +kernel
theorem dKF_1_1 : decode jdk_52_method_15_code 1 = .ok (.aload_n 0, 1) := by decide +kernel
theorem dKF_1_2 : decode jdk_52_method_15_code 2 = .ok (.arraylength, 1) := by decide +kernel
theorem dKF_1_3 : decode jdk_52_method_15_code 3 = .ok (.isub, 1) := by decide +kernel
theorem dKF_1_4 : decode jdk_52_method_15_code 4 = .ok (.bipush 31, 2) := by decide +kernel
theorem dKF_1_6 : decode jdk_52_method_15_code 6 = .ok (.iushr, 1) := by decide +kernel
theorem dKF_1_7 : decode jdk_52_method_15_code 7 = .ok (.i2b, 1) := by decide +kernel
theorem dKF_1_8 : decode jdk_52_method_15_code 8 = .ok (.ireturn, 1) := by decide +kernel
theorem ef_rmKF_1 (m : MethodId) (d : Addr) : entryFrame m #[(.ref d), (.int (1 : Int32))] 2 = mkF m 0 #[.val (.ref d), .val (.int (1 : Int32))] [] := by first | exact own_entry rfl | (simp [entryFrame, mkF, argsToLocals, Value.category]; done) | rfl
set_option maxRecDepth 65536 in
set_option maxHeartbeats 40000000 in
theorem rmKF_1 (l : Launch) (Z : State) (a0 : Array Value) (hw : ∀ d ∈ tables_1, d.before a0 Z = true) (d : Addr) (kd : ClassId) (x0 : Int32) (h0 : Heap) (n0 : Nat) (Z0 : n0 ≤ h0.size) (V_d : Arv Z h0 d kd .byte (1 : Int32) [(.int (nar .byte (x0).toInt8.toInt32))] (.int (0 : Int32))) :
    Pays l (⟨"java/lang/StringUTF16", "coderFromArrayLen", "([BI)B"⟩ : MethodName) jdk_52_method_15_code 2 (some .byte) ({ frames := 0, cells := 0, slots := 0, locals := 0 } : Room) Z #[(.ref d), (.int (1 : Int32))] h0 (fun v h L => v = some (.int (0 : Int32)) ∧ Fr n0 L ∧ h = h0) := by
  refine Pays.of (plainFor_of_name pn_java_lang_StringUTF16) ?_
  intro pP eE sS m below methM cC T hx hby hml hret hlk hZ hown hnm eT X
  replace hown : sS.vm.findClass "java/lang/StringUTF16" = some m.cls := hown
  have N0 := Fr.nil n0
  refine Go.cast (ef_rmKF_1 m d) ?_
  refine Go.st (S' := T.setTop (mkF m 1 #[.val (.ref d), .val (.int (1 : Int32))] [(.int (1 : Int32))])) (fun t kt => XS.iloadN X.here hx rfl (hb hby dKF_1_0) rfl kt) ?_
  refine Go.st (S' := T.setTop (mkF m 2 #[.val (.ref d), .val (.int (1 : Int32))] [(.ref d), (.int (1 : Int32))])) (fun t kt => XS.aloadN X.here hx rfl (hb hby dKF_1_1) rfl rfl kt) ?_
  obtain ⟨cl1, Ar1, q1, S1, M1, H1, G1⟩ := id V_d
  refine Go.st (S' := T.setTop (mkF m 3 #[.val (.ref d), .val (.int (1 : Int32))] [(.int (1 : Int32)), (.int (1 : Int32))])) (fun t kt => own_alen X hx hZ eT Ar1 (len_of S1 M1) rfl (hb hby dKF_1_2) t kt) ?_
  refine Go.st (S' := T.setTop (mkF m 4 #[.val (.ref d), .val (.int (1 : Int32))] [(.int (0 : Int32))])) (fun t kt => XS.isub X.here hx rfl (hb hby dKF_1_3) rfl kt) ?_
  refine Go.st (S' := T.setTop (mkF m 6 #[.val (.ref d), .val (.int (1 : Int32))] [(.int (31 : Int32)), (.int (0 : Int32))])) (fun t kt => XT.bipushV X.here hx rfl (31 : Int32) (hb hby dKF_1_4) (by decide) kt) ?_
  refine Go.st (S' := T.setTop (mkF m 7 #[.val (.ref d), .val (.int (1 : Int32))] [(.int (0 : Int32))])) (fun t kt => XT.iushr X.here hx rfl (hb hby dKF_1_6) rfl kt) ?_
  refine Go.st (S' := T.setTop (mkF m 8 #[.val (.ref d), .val (.int (1 : Int32))] [(.int (0 : Int32))])) (fun t kt => XT.i2b X.here hx rfl (hb hby dKF_1_7) rfl kt) ?_
  exact ret_y X hx hlk hret (hb hby dKF_1_8) (by decide) (by decide) (⟨rfl, N0, eT⟩)
theorem dK4_1_0 : decode jdk_42_method_149_code 0 = .ok (.aload_n 0, 1) := by decide +kernel
theorem dK4_1_1 : decode jdk_42_method_149_code 1 = .ok (.invokespecial 1, 3) := by decide +kernel
theorem dK4_1_4 : decode jdk_42_method_149_code 4 = .ok (.iload_n 3, 1) := by decide +kernel
theorem dK4_1_5 : decode jdk_42_method_149_code 5 = .ok (.ifCond .ne 22, 3) := by decide +kernel
theorem dK4_1_27 : decode jdk_42_method_149_code 27 = .ok (.getstatic 38, 3) := by decide +kernel
theorem dK4_1_30 : decode jdk_42_method_149_code 30 = .ok (.ifCond .eq 28, 3) := by decide +kernel
theorem dK4_1_33 : decode jdk_42_method_149_code 33 = .ok (.aload_n 1, 1) := by decide +kernel
theorem dK4_1_34 : decode jdk_42_method_149_code 34 = .ok (.iload_n 2, 1) := by decide +kernel
theorem dK4_1_35 : decode jdk_42_method_149_code 35 = .ok (.iload_n 3, 1) := by decide +kernel
theorem dK4_1_36 : decode jdk_42_method_149_code 36 = .ok (.invokestatic 177, 3) := by decide +kernel
theorem dK4_1_39 : decode jdk_42_method_149_code 39 = .ok (.astore 5, 2) := by decide +kernel
theorem dK4_1_41 : decode jdk_42_method_149_code 41 = .ok (.aload_n 0, 1) := by decide +kernel
theorem dK4_1_42 : decode jdk_42_method_149_code 42 = .ok (.aload 5, 2) := by decide +kernel
theorem dK4_1_44 : decode jdk_42_method_149_code 44 = .ok (.iload_n 3, 1) := by decide +kernel
theorem dK4_1_45 : decode jdk_42_method_149_code 45 = .ok (.invokestatic 47, 3) := by decide +kernel
theorem dK4_1_48 : decode jdk_42_method_149_code 48 = .ok (.putfield 15, 3) := by decide +kernel
theorem dK4_1_51 : decode jdk_42_method_149_code 51 = .ok (.aload_n 0, 1) := by decide +kernel
theorem dK4_1_52 : decode jdk_42_method_149_code 52 = .ok (.aload 5, 2) := by decide +kernel
theorem dK4_1_54 : decode jdk_42_method_149_code 54 = .ok (.putfield 9, 3) := by decide +kernel
theorem dK4_1_57 : decode jdk_42_method_149_code 57 = .ok (.return_, 1) := by decide +kernel
theorem pd___CII__B : parseMethodDescriptor "([CII)[B" = some ⟨[(.array .char), .int, .int], some (.array .byte)⟩ := by decide +kernel
theorem pd___BI_B : parseMethodDescriptor "([BI)B" = some ⟨[(.array .byte), .int], some .byte⟩ := by decide +kernel
theorem ef_rmK4_1 (m : MethodId) (a : Addr) (ca : Addr) : entryFrame m #[(.ref a), (.ref ca), (.int (0 : Int32)), (.int (1 : Int32)), .null] 6 = mkF m 0 #[.val (.ref a), .val (.ref ca), .val (.int (0 : Int32)), .val (.int (1 : Int32)), .val .null, .unset] [] := by first | exact own_entry rfl | (simp [entryFrame, mkF, argsToLocals, Value.category]; done) | rfl
set_option maxRecDepth 65536 in
set_option maxHeartbeats 40000000 in
theorem rmK4_1 (l : Launch) (Z : State) (a0 : Array Value) (hw : ∀ d ∈ tables_1, d.before a0 Z = true) (a ca : Addr) (kc : ClassId) (x0 : Int32) (h0 : Heap) (n0 : Nat) (Z0 : n0 ≤ h0.size) (E_a : Exa Z h0 a "java/lang/String") (ha : n0 ≤ a) (hca : ca ≠ a) (F_value : Fld Z h0 a "java/lang/String" "value" "[B" .null) (F_coder : Fld Z h0 a "java/lang/String" "coder" "B" (.int (0 : Int32))) (V_c : Arv Z h0 ca kc .char (1 : Int32) [(.int x0)] (.int (0 : Int32))) (hx0 : ¬ (255 : Int32) < x0) (cs : Int32) (S_cs : Sta Z h0 "java/lang/String" "COMPACT_STRINGS" "Z" (.int cs)) (hcs : ¬ cs = 0) :
    Pays l (⟨"java/lang/String", "<init>", "([CIILjava/lang/Void;)V"⟩ : MethodName) jdk_42_method_149_code 6 none ({ frames := 2, cells := 1, slots := 1, locals := 35 } : Room) Z #[(.ref a), (.ref ca), (.int (0 : Int32)), (.int (1 : Int32)), .null] h0 (fun v h L => ∃ d k, v = none ∧ Fr n0 L ∧ Keep h0 h [a] ∧ h0.size ≤ d ∧ n0 ≤ d ∧ Exa Z h a "java/lang/String" ∧ Fld Z h a "java/lang/String" "value" "[B" (.ref d) ∧ Fld Z h a "java/lang/String" "coder" "B" (.int (0 : Int32)) ∧ Arv Z h d k .byte (1 : Int32) [(.int (nar .byte (x0).toInt8.toInt32))] (.int (0 : Int32))) := by
  refine Pays.of (plainFor_of_name pn_java_lang_String) ?_
  intro pP eE sS m below methM cC T hx hby hml hret hlk hZ hown hnm eT X
  replace hown : sS.vm.findClass "java/lang/String" = some m.cls := hown
  have N0 := Fr.nil n0
  have K0 := Keep.refl h0 [a]
  refine Go.cast (ef_rmK4_1 m a ca) ?_
  refine Go.st (S' := T.setTop (mkF m 1 #[.val (.ref a), .val (.ref ca), .val (.int (0 : Int32)), .val (.int (1 : Int32)), .val .null, .unset] [(.ref a)])) (fun t kt => XS.aloadN X.here hx rfl (hb hby dK4_1_0) rfl rfl kt) ?_
  obtain ⟨T1, X1, e1, st1⟩ := initO X hx hZ hown (hw _ (List.mem_of_getElem? (i := 58) rfl)) (hw _ (List.mem_of_getElem? (i := 25) rfl)) (hw _ (List.mem_of_getElem? (i := 26) rfl)) eT (g := (mkF m 1 #[.val (.ref a), .val (.ref ca), .val (.int (0 : Int32)), .val (.int (1 : Int32)), .val .null, .unset] [(.ref a)])) rfl (by rw [hml]; rfl) rfl (hb hby dK4_1_1) (by decide) (W := 0) (by show 2 * 0 + _ ≤ _; exact Nat.le_of_eq rfl) (by decide)
  refine Go.st (S' := T1.setTop (mkF m 4 #[.val (.ref a), .val (.ref ca), .val (.int (0 : Int32)), .val (.int (1 : Int32)), .val .null, .unset] [])) (fun t kt => st1 t kt) ?_
  refine Go.st (S' := T1.setTop (mkF m 5 #[.val (.ref a), .val (.ref ca), .val (.int (0 : Int32)), .val (.int (1 : Int32)), .val .null, .unset] [(.int (1 : Int32))])) (fun t kt => XS.iloadN X1.here hx rfl (hb hby dK4_1_4) rfl kt) ?_
  refine Go.st (S' := T1.setTop (mkF m 27 #[.val (.ref a), .val (.ref ca), .val (.int (0 : Int32)), .val (.int (1 : Int32)), .val .null, .unset] [])) (fun t kt => XS.ifYes X1.here hx rfl (pc0 := 5) (pc' := 27) rfl (hb hby dK4_1_5) rfl (XT.i0_ne_t (by decide)) (by decide) (by decide) kt) ?_
  obtain ⟨T2, X2, e2, st2⟩ := getS X1 hx hZ (host := "") hown (hw _ (List.mem_of_getElem? (i := 59) rfl)) Via.refl e1 S_cs (g := (mkF m 27 #[.val (.ref a), .val (.ref ca), .val (.int (0 : Int32)), .val (.int (1 : Int32)), .val .null, .unset] [])) rfl (hb hby dK4_1_27)
  refine Go.st (S' := T2.setTop (mkF m 30 #[.val (.ref a), .val (.ref ca), .val (.int (0 : Int32)), .val (.int (1 : Int32)), .val .null, .unset] [(.int cs)])) (fun t kt => st2 t kt) ?_
  refine Go.st (S' := T2.setTop (mkF m 33 #[.val (.ref a), .val (.ref ca), .val (.int (0 : Int32)), .val (.int (1 : Int32)), .val .null, .unset] [])) (fun t kt => XS.ifNo X2.here hx rfl (hb hby dK4_1_30) rfl (XT.i0_eq_f hcs) kt) ?_
  refine Go.st (S' := T2.setTop (mkF m 34 #[.val (.ref a), .val (.ref ca), .val (.int (0 : Int32)), .val (.int (1 : Int32)), .val .null, .unset] [(.ref ca)])) (fun t kt => XS.aloadN X2.here hx rfl (hb hby dK4_1_33) rfl rfl kt) ?_
  refine Go.st (S' := T2.setTop (mkF m 35 #[.val (.ref a), .val (.ref ca), .val (.int (0 : Int32)), .val (.int (1 : Int32)), .val .null, .unset] [(.int (0 : Int32)), (.ref ca)])) (fun t kt => XS.iloadN X2.here hx rfl (hb hby dK4_1_34) rfl kt) ?_
  refine Go.st (S' := T2.setTop (mkF m 36 #[.val (.ref a), .val (.ref ca), .val (.int (0 : Int32)), .val (.int (1 : Int32)), .val .null, .unset] [(.int (1 : Int32)), (.int (0 : Int32)), (.ref ca)])) (fun t kt => XS.iloadN X2.here hx rfl (hb hby dK4_1_35) rfl kt) ?_
  refine Go.stat X2 hx hZ hown (hw _ (List.mem_of_getElem? (i := 60) rfl)) (hw _ (List.mem_of_getElem? (i := 61) rfl)) (hw _ (List.mem_of_getElem? (i := 62) rfl)) (hw _ (List.mem_of_getElem? (i := 63) rfl)) (by decide) (argsL := [(.ref ca), (.int (0 : Int32)), (.int (1 : Int32))]) (rest := []) (rmK3_1 l Z a0 hw ca kc x0 h0 n0 Z0 V_c hx0) e2 rfl (by rw [hml]; rfl) pd___CII__B rfl (hb hby dK4_1_36) 0 (Nat.le_refl _) (by decide) (by decide) (by decide) (by decide) ?_
  intro v3 T3 L3 X3 hQ3
  obtain ⟨d3, k3, hv3, N3', K3', y3_0, u3_0, f3_0⟩ := hQ3
  subst hv3
  have N3 := Fr.app N0 N3'
  have Z3 : n0 ≤ T3.heap.size := Nat.le_trans Z0 K3'.1
  have eh3 : T3.heap = T3.heap := rfl
  have sz_d3 : h0.size ≤ d3 := Nat.le_trans K0.1 y3_0
  have K3 := Keep.trans K0 K3' all0
  show Go pP eE below _ (T3.setTop (mkF m 39 #[.val (.ref a), .val (.ref ca), .val (.int (0 : Int32)), .val (.int (1 : Int32)), .val .null, .unset] [(.ref d3)]))
  refine Go.st (S' := T3.setTop (mkF m 41 #[.val (.ref a), .val (.ref ca), .val (.int (0 : Int32)), .val (.int (1 : Int32)), .val .null, .val (.ref d3)] [])) (fun t kt => XS.astore X3.here hx rfl (hb hby dK4_1_39) rfl rfl rfl kt) ?_
  refine Go.st (S' := T3.setTop (mkF m 42 #[.val (.ref a), .val (.ref ca), .val (.int (0 : Int32)), .val (.int (1 : Int32)), .val .null, .val (.ref d3)] [(.ref a)])) (fun t kt => XS.aloadN X3.here hx rfl (hb hby dK4_1_41) rfl rfl kt) ?_
  refine Go.st (S' := T3.setTop (mkF m 44 #[.val (.ref a), .val (.ref ca), .val (.int (0 : Int32)), .val (.int (1 : Int32)), .val .null, .val (.ref d3)] [(.ref d3), (.ref a)])) (fun t kt => XS.aload X3.here hx rfl (hb hby dK4_1_42) rfl rfl kt) ?_
  refine Go.st (S' := T3.setTop (mkF m 45 #[.val (.ref a), .val (.ref ca), .val (.int (0 : Int32)), .val (.int (1 : Int32)), .val .null, .val (.ref d3)] [(.int (1 : Int32)), (.ref d3), (.ref a)])) (fun t kt => XS.iloadN X3.here hx rfl (hb hby dK4_1_44) rfl kt) ?_
  refine Go.stat X3 hx hZ hown (hw _ (List.mem_of_getElem? (i := 68) rfl)) (hw _ (List.mem_of_getElem? (i := 69) rfl)) (hw _ (List.mem_of_getElem? (i := 62) rfl)) (hw _ (List.mem_of_getElem? (i := 70) rfl)) (by decide) (argsL := [(.ref d3), (.int (1 : Int32))]) (rest := [(.ref a)]) (rmKF_1 l Z a0 hw d3 k3 x0 T3.heap n0 Z3 f3_0) eh3 rfl (by rw [hml]; rfl) pd___BI_B rfl (hb hby dK4_1_45) 1 (Nat.le_refl _) (by decide) (by decide) (by decide) (by decide) ?_
  intro v4 T4 L4 X4 hQ4
  obtain ⟨hv4, N4', e4⟩ := hQ4
  subst hv4
  have N4 := Fr.app N3 N4'
  show Go pP eE below _ (T4.setTop (mkF m 48 #[.val (.ref a), .val (.ref ca), .val (.int (0 : Int32)), .val (.int (1 : Int32)), .val .null, .val (.ref d3)] [(.int (0 : Int32)), (.ref a)]))
  have f5 := (F_coder.keep K3' nin0)
  have f6 := (E_a.keep K3')
  obtain ⟨T7, h7, X7, e7, W7, st7⟩ := putF X4 hx hZ hown (host := "") (Or.inl (hw _ (List.mem_of_getElem? (i := 71) rfl))) Via.refl e4 f5 f6 (Or.inr ⟨(hw _ (List.mem_of_getElem? (i := 72) rfl)), rfl, hnm⟩) (hw _ (List.mem_of_getElem? (i := 48) rfl)) (ty := .byte) (by decide) rfl rfl (g := (mkF m 48 #[.val (.ref a), .val (.ref ca), .val (.int (0 : Int32)), .val (.int (1 : Int32)), .val .null, .val (.ref d3)] [(.int (0 : Int32)), (.ref a)])) rfl rfl (hb hby dK4_1_48)
  have F7 := Fld.same W7 f5
  have N7 := Fr.snoc X7 N4 ha
  have Z7 : n0 ≤ h7.size := by rw [Wr.size W7]; exact Z3
  have K7 := Keep.wr K3 W7 (Or.inl (List.mem_of_getElem? (i := 0) rfl))
  refine Go.st (S' := T7.setTop (mkF m 51 #[.val (.ref a), .val (.ref ca), .val (.int (0 : Int32)), .val (.int (1 : Int32)), .val .null, .val (.ref d3)] [])) (fun t kt => st7 t kt) ?_
  refine Go.st (S' := T7.setTop (mkF m 52 #[.val (.ref a), .val (.ref ca), .val (.int (0 : Int32)), .val (.int (1 : Int32)), .val .null, .val (.ref d3)] [(.ref a)])) (fun t kt => XS.aloadN X7.here hx rfl (hb hby dK4_1_51) rfl rfl kt) ?_
  refine Go.st (S' := T7.setTop (mkF m 54 #[.val (.ref a), .val (.ref ca), .val (.int (0 : Int32)), .val (.int (1 : Int32)), .val .null, .val (.ref d3)] [(.ref d3), (.ref a)])) (fun t kt => XS.aload X7.here hx rfl (hb hby dK4_1_52) rfl rfl kt) ?_
  have f8 := (Fld.other W7 (F_value.keep K3' nin0) (Or.inr (slot_ne (Or.inr (hw _ (List.mem_of_getElem? (i := 74) rfl))) (Or.inr (hw _ (List.mem_of_getElem? (i := 72) rfl))) (by decide) (t := (.array .byte)) (t' := .byte) (by decide) (by decide))))
  have f9 := (Exa.wr W7 f6)
  obtain ⟨T10, h10, X10, e10, W10, st10⟩ := putF X7 hx hZ hown (host := "") (Or.inl (hw _ (List.mem_of_getElem? (i := 73) rfl))) Via.refl e7 f8 f9 (Or.inr ⟨(hw _ (List.mem_of_getElem? (i := 74) rfl)), rfl, hnm⟩) (hw _ (List.mem_of_getElem? (i := 48) rfl)) (ty := (.array .byte)) (by decide) rfl rfl (g := (mkF m 54 #[.val (.ref a), .val (.ref ca), .val (.int (0 : Int32)), .val (.int (1 : Int32)), .val .null, .val (.ref d3)] [(.ref d3), (.ref a)])) rfl rfl (hb hby dK4_1_54)
  have F10 := Fld.same W10 f8
  have N10 := Fr.snoc X10 N7 ha
  have Z10 : n0 ≤ h10.size := by rw [Wr.size W10]; exact Z7
  have K10 := Keep.wr K7 W10 (Or.inl (List.mem_of_getElem? (i := 0) rfl))
  refine Go.st (S' := T10.setTop (mkF m 57 #[.val (.ref a), .val (.ref ca), .val (.int (0 : Int32)), .val (.int (1 : Int32)), .val .null, .val (.ref d3)] [])) (fun t kt => st10 t kt) ?_
  have f11 := (Exa.wr W10 f9)
  have f12 := (Fld.other W10 F7 (Or.inr (slot_ne (Or.inr (hw _ (List.mem_of_getElem? (i := 72) rfl))) (Or.inr (hw _ (List.mem_of_getElem? (i := 74) rfl))) (by decide) (t := .byte) (t' := (.array .byte)) (by decide) (by decide))))
  have f13 := ((f3_0.other W7 (Ne.symm (Nat.ne_of_lt (Nat.lt_of_lt_of_le E_a.lt y3_0)))).other W10 (Ne.symm (Nat.ne_of_lt (Nat.lt_of_lt_of_le E_a.lt y3_0))))
  exact ret_v X10 hx hlk hret (hb hby dK4_1_57) (by decide) (by decide) (by rw [e10]; exact ⟨_, _, rfl, N10, K10, sz_d3, u3_0, f11, F10, f12, f13⟩)
theorem dK1_1_0 : decode jdk_42_method_3_code 0 = .ok (.aload_n 0, 1) := by decide +kernel
theorem dK1_1_1 : decode jdk_42_method_3_code 1 = .ok (.aload_n 1, 1) := by decide +kernel
theorem dK1_1_2 : decode jdk_42_method_3_code 2 = .ok (.iconst 0, 1) := by decide +kernel
theorem dK1_1_3 : decode jdk_42_method_3_code 3 = .ok (.aload_n 1, 1) := by decide +kernel
theorem dK1_1_4 : decode jdk_42_method_3_code 4 = .ok (.arraylength, 1) := by decide +kernel
theorem dK1_1_5 : decode jdk_42_method_3_code 5 = .ok (.aconst_null, 1) := by decide +kernel
theorem dK1_1_6 : decode jdk_42_method_3_code 6 = .ok (.invokespecial 27, 3) := by decide +kernel
theorem dK1_1_9 : decode jdk_42_method_3_code 9 = .ok (.return_, 1) := by decide +kernel
theorem pd___CIILjava_lang_Void__V : parseMethodDescriptor "([CIILjava/lang/Void;)V" = some ⟨[(.array .char), .int, .int, (.object "java/lang/Void")], none⟩ := by decide +kernel
theorem ef_rmK1_1 (m : MethodId) (a : Addr) (ca : Addr) : entryFrame m #[(.ref a), (.ref ca)] 2 = mkF m 0 #[.val (.ref a), .val (.ref ca)] [] := by first | exact own_entry rfl | (simp [entryFrame, mkF, argsToLocals, Value.category]; done) | rfl
set_option maxRecDepth 65536 in
set_option maxHeartbeats 40000000 in
theorem rmK1_1 (l : Launch) (Z : State) (a0 : Array Value) (hw : ∀ d ∈ tables_1, d.before a0 Z = true) (a ca : Addr) (kc : ClassId) (x0 : Int32) (h0 : Heap) (n0 : Nat) (Z0 : n0 ≤ h0.size) (E_a : Exa Z h0 a "java/lang/String") (ha : n0 ≤ a) (hca : ca ≠ a) (F_value : Fld Z h0 a "java/lang/String" "value" "[B" .null) (F_coder : Fld Z h0 a "java/lang/String" "coder" "B" (.int (0 : Int32))) (V_c : Arv Z h0 ca kc .char (1 : Int32) [(.int x0)] (.int (0 : Int32))) (hx0 : ¬ (255 : Int32) < x0) (cs : Int32) (S_cs : Sta Z h0 "java/lang/String" "COMPACT_STRINGS" "Z" (.int cs)) (hcs : ¬ cs = 0) :
    Pays l (⟨"java/lang/String", "<init>", "([C)V"⟩ : MethodName) jdk_42_method_3_code 2 none ({ frames := 3, cells := 1, slots := 1, locals := 52 } : Room) Z #[(.ref a), (.ref ca)] h0 (fun v h L => ∃ d k, v = none ∧ Fr n0 L ∧ Keep h0 h [a] ∧ h0.size ≤ d ∧ n0 ≤ d ∧ Exa Z h a "java/lang/String" ∧ Fld Z h a "java/lang/String" "value" "[B" (.ref d) ∧ Fld Z h a "java/lang/String" "coder" "B" (.int (0 : Int32)) ∧ Arv Z h d k .byte (1 : Int32) [(.int (nar .byte (x0).toInt8.toInt32))] (.int (0 : Int32))) := by
  refine Pays.of (plainFor_of_name pn_java_lang_String) ?_
  intro pP eE sS m below methM cC T hx hby hml hret hlk hZ hown hnm eT X
  replace hown : sS.vm.findClass "java/lang/String" = some m.cls := hown
  have N0 := Fr.nil n0
  have K0 := Keep.refl h0 [a]
  refine Go.cast (ef_rmK1_1 m a ca) ?_
  refine Go.st (S' := T.setTop (mkF m 1 #[.val (.ref a), .val (.ref ca)] [(.ref a)])) (fun t kt => XS.aloadN X.here hx rfl (hb hby dK1_1_0) rfl rfl kt) ?_
  refine Go.st (S' := T.setTop (mkF m 2 #[.val (.ref a), .val (.ref ca)] [(.ref ca), (.ref a)])) (fun t kt => XS.aloadN X.here hx rfl (hb hby dK1_1_1) rfl rfl kt) ?_
  refine Go.st (S' := T.setTop (mkF m 3 #[.val (.ref a), .val (.ref ca)] [(.int (0 : Int32)), (.ref ca), (.ref a)])) (fun t kt => XS.iconst X.here hx rfl (hb hby dK1_1_2) kt) ?_
  refine Go.st (S' := T.setTop (mkF m 4 #[.val (.ref a), .val (.ref ca)] [(.ref ca), (.int (0 : Int32)), (.ref ca), (.ref a)])) (fun t kt => XS.aloadN X.here hx rfl (hb hby dK1_1_3) rfl rfl kt) ?_
  obtain ⟨cl1, Ar1, q1, S1, M1, H1, G1⟩ := id V_c
  refine Go.st (S' := T.setTop (mkF m 5 #[.val (.ref a), .val (.ref ca)] [(.int (1 : Int32)), (.int (0 : Int32)), (.ref ca), (.ref a)])) (fun t kt => own_alen X hx hZ eT Ar1 (len_of S1 M1) rfl (hb hby dK1_1_4) t kt) ?_
  refine Go.st (S' := T.setTop (mkF m 6 #[.val (.ref a), .val (.ref ca)] [.null, (.int (1 : Int32)), (.int (0 : Int32)), (.ref ca), (.ref a)])) (fun t kt => XS.aconstNull X.here hx rfl (hb hby dK1_1_5) kt) ?_
  refine Go.init X hx hZ rfl hown (hw _ (List.mem_of_getElem? (i := 54) rfl)) (hw _ (List.mem_of_getElem? (i := 55) rfl)) (hw _ (List.mem_of_getElem? (i := 57) rfl)) (hw _ (List.mem_of_getElem? (i := 49) rfl)) (by decide) (b := a) (argsL := [(.ref ca), (.int (0 : Int32)), (.int (1 : Int32)), .null]) (rest := []) (rmK4_1 l Z a0 hw a ca kc x0 h0 n0 Z0 E_a ha hca F_value F_coder V_c hx0 cs S_cs hcs) eT rfl (by rw [hml]; rfl) pd___CIILjava_lang_Void__V rfl (hb hby dK1_1_6) 0 (Nat.le_refl _) (by decide) (by decide) (by decide) (by decide) ?_
  intro v2 T2 L2 X2 hQ2
  obtain ⟨d2, k2, hv2, N2', K2', y2_0, u2_0, f2_0, f2_1, f2_2, f2_3⟩ := hQ2
  subst hv2
  have N2 := Fr.app N0 N2'
  have Z2 : n0 ≤ T2.heap.size := Nat.le_trans Z0 K2'.1
  have eh2 : T2.heap = T2.heap := rfl
  have sz_d2 : h0.size ≤ d2 := Nat.le_trans K0.1 y2_0
  have K2 := Keep.trans K0 K2' (allS (Or.inl (List.mem_of_getElem? (i := 0) rfl)) all0)
  show Go pP eE below _ (T2.setTop (mkF m 9 #[.val (.ref a), .val (.ref ca)] []))
  exact ret_v X2 hx hlk hret (hb hby dK1_1_9) (by decide) (by decide) (by rw [eh2]; exact ⟨_, _, rfl, N2, K2, sz_d2, u2_0, f2_0, f2_1, f2_2, f2_3⟩)
theorem dK5_2_0 : decode jdk_52_method_21_code 0 = .ok (.iconst 0, 1) := by decide +kernel
theorem dK5_2_1 : decode jdk_52_method_21_code 1 = .ok (.istore 5, 2) := by decide +kernel
theorem dK5_2_3 : decode jdk_52_method_21_code 3 = .ok (.iload 5, 2) := by decide +kernel
theorem dK5_2_5 : decode jdk_52_method_21_code 5 = .ok (.iload 4, 2) := by decide +kernel
theorem dK5_2_7 : decode jdk_52_method_21_code 7 = .ok (.if_icmp .ge 37, 3) := by decide +kernel
theorem dK5_2_10 : decode jdk_52_method_21_code 10 = .ok (.aload_n 0, 1) := by decide +kernel
theorem dK5_2_11 : decode jdk_52_method_21_code 11 = .ok (.iload_n 1, 1) := by decide +kernel
theorem dK5_2_12 : decode jdk_52_method_21_code 12 = .ok (.caload, 1) := by decide +kernel
theorem dK5_2_13 : decode jdk_52_method_21_code 13 = .ok (.istore 6, 2) := by decide +kernel
theorem dK5_2_15 : decode jdk_52_method_21_code 15 = .ok (.iload 6, 2) := by decide +kernel
theorem dK5_2_17 : decode jdk_52_method_21_code 17 = .ok (.sipush 255, 3) := by decide +kernel
theorem dK5_2_20 : decode jdk_52_method_21_code 20 = .ok (.if_icmp .le 6, 3) := by decide +kernel
theorem dK5_2_26 : decode jdk_52_method_21_code 26 = .ok (.aload_n 2, 1) := by decide +kernel
theorem dK5_2_27 : decode jdk_52_method_21_code 27 = .ok (.iload_n 3, 1) := by decide +kernel
theorem dK5_2_28 : decode jdk_52_method_21_code 28 = .ok (.iload 6, 2) := by decide +kernel
theorem dK5_2_30 : decode jdk_52_method_21_code 30 = .ok (.i2b, 1) := by decide +kernel
theorem dK5_2_31 : decode jdk_52_method_21_code 31 = .ok (.bastore, 1) := by decide +kernel
theorem dK5_2_32 : decode jdk_52_method_21_code 32 = .ok (.iinc 1 1, 3) := by decide +kernel
theorem dK5_2_35 : decode jdk_52_method_21_code 35 = .ok (.iinc 3 1, 3) := by decide +kernel
theorem dK5_2_38 : decode jdk_52_method_21_code 38 = .ok (.iinc 5 1, 3) := by decide +kernel
theorem dK5_2_41 : decode jdk_52_method_21_code 41 = .ok (.goto (-38), 3) := by decide +kernel
theorem dK5_2_44 : decode jdk_52_method_21_code 44 = .ok (.iload 4, 2) := by decide +kernel
theorem dK5_2_46 : decode jdk_52_method_21_code 46 = .ok (.ireturn, 1) := by decide +kernel
theorem ef_rmK5_2 (m : MethodId) (ca : Addr) (d : Addr) : entryFrame m #[(.ref ca), (.int (0 : Int32)), (.ref d), (.int (0 : Int32)), (.int (2 : Int32))] 7 = mkF m 0 #[.val (.ref ca), .val (.int (0 : Int32)), .val (.ref d), .val (.int (0 : Int32)), .val (.int (2 : Int32)), .unset, .unset] [] := by first | exact own_entry rfl | (simp [entryFrame, mkF, argsToLocals, Value.category]; done) | rfl
set_option maxRecDepth 65536 in
set_option maxHeartbeats 40000000 in
theorem rmK5_2 (l : Launch) (Z : State) (a0 : Array Value) (hw : ∀ d ∈ tables_1, d.before a0 Z = true) (ca d : Addr) (kc kd : ClassId) (x0 x1 : Int32) (h0 : Heap) (n0 : Nat) (Z0 : n0 ≤ h0.size) (V_c : Arv Z h0 ca kc .char (2 : Int32) [(.int x0), (.int x1)] (.int (0 : Int32))) (V_d : Arv Z h0 d kd .byte (2 : Int32) [(.int (0 : Int32)), (.int (0 : Int32))] (.int (0 : Int32))) (hcd : ca ≠ d) (hd : n0 ≤ d) (hx0 : ¬ (255 : Int32) < x0) (hx1 : ¬ (255 : Int32) < x1) :
    Pays l (⟨"java/lang/StringUTF16", "compress", "([CI[BII)I"⟩ : MethodName) jdk_52_method_21_code 7 (some .int) ({ frames := 0, cells := 0, slots := 0, locals := 0 } : Room) Z #[(.ref ca), (.int (0 : Int32)), (.ref d), (.int (0 : Int32)), (.int (2 : Int32))] h0 (fun v h L => v = some (.int (2 : Int32)) ∧ Fr n0 L ∧ Keep h0 h [d] ∧ Arv Z h d kd .byte (2 : Int32) [(.int (nar .byte (x0).toInt8.toInt32)), (.int (nar .byte (x1).toInt8.toInt32))] (.int (0 : Int32))) := by
  refine Pays.of (plainFor_of_name pn_java_lang_StringUTF16) ?_
  intro pP eE sS m below methM cC T hx hby hml hret hlk hZ hown hnm eT X
  replace hown : sS.vm.findClass "java/lang/StringUTF16" = some m.cls := hown
  have N0 := Fr.nil n0
  have K0 := Keep.refl h0 [d]
  refine Go.cast (ef_rmK5_2 m ca d) ?_
  refine Go.st (S' := T.setTop (mkF m 1 #[.val (.ref ca), .val (.int (0 : Int32)), .val (.ref d), .val (.int (0 : Int32)), .val (.int (2 : Int32)), .unset, .unset] [(.int (0 : Int32))])) (fun t kt => XS.iconst X.here hx rfl (hb hby dK5_2_0) kt) ?_
  refine Go.st (S' := T.setTop (mkF m 3 #[.val (.ref ca), .val (.int (0 : Int32)), .val (.ref d), .val (.int (0 : Int32)), .val (.int (2 : Int32)), .val (.int (0 : Int32)), .unset] [])) (fun t kt => XS.istore X.here hx rfl (hb hby dK5_2_1) rfl rfl kt) ?_
  refine Go.st (S' := T.setTop (mkF m 5 #[.val (.ref ca), .val (.int (0 : Int32)), .val (.ref d), .val (.int (0 : Int32)), .val (.int (2 : Int32)), .val (.int (0 : Int32)), .unset] [(.int (0 : Int32))])) (fun t kt => XS.iload X.here hx rfl (hb hby dK5_2_3) rfl kt) ?_
  refine Go.st (S' := T.setTop (mkF m 7 #[.val (.ref ca), .val (.int (0 : Int32)), .val (.ref d), .val (.int (0 : Int32)), .val (.int (2 : Int32)), .val (.int (0 : Int32)), .unset] [(.int (2 : Int32)), (.int (0 : Int32))])) (fun t kt => XS.iload X.here hx rfl (hb hby dK5_2_5) rfl kt) ?_
  refine Go.st (S' := T.setTop (mkF m 10 #[.val (.ref ca), .val (.int (0 : Int32)), .val (.ref d), .val (.int (0 : Int32)), .val (.int (2 : Int32)), .val (.int (0 : Int32)), .unset] [])) (fun t kt => XS.icmpNo X.here hx rfl (hb hby dK5_2_7) rfl (XT.ii_ge_f (by decide)) kt) ?_
  refine Go.st (S' := T.setTop (mkF m 11 #[.val (.ref ca), .val (.int (0 : Int32)), .val (.ref d), .val (.int (0 : Int32)), .val (.int (2 : Int32)), .val (.int (0 : Int32)), .unset] [(.ref ca)])) (fun t kt => XS.aloadN X.here hx rfl (hb hby dK5_2_10) rfl rfl kt) ?_
  refine Go.st (S' := T.setTop (mkF m 12 #[.val (.ref ca), .val (.int (0 : Int32)), .val (.ref d), .val (.int (0 : Int32)), .val (.int (2 : Int32)), .val (.int (0 : Int32)), .unset] [(.int (0 : Int32)), (.ref ca)])) (fun t kt => XS.iloadN X.here hx rfl (hb hby dK5_2_11) rfl kt) ?_
  obtain ⟨cl1, Ar1, q1, S1, M1, H1, G1⟩ := id V_c
  refine Go.st (S' := T.setTop (mkF m 13 #[.val (.ref ca), .val (.int (0 : Int32)), .val (.ref d), .val (.int (0 : Int32)), .val (.int (2 : Int32)), .val (.int (0 : Int32)), .unset] [(.int x0)])) (fun t kt => X.caload hx (j := (0 : Int32)) (v := (.int x0)) (by rw [eT]; exact Ar1.1) (State.isArrayOf_alike hZ.alike Ar1.2.1) Ar1.2.2 (inb_of S1 ⟨by decide, by decide⟩) (Has.at H1 (inb_of S1 ⟨by decide, by decide⟩) rfl) (g := (mkF m 12 #[.val (.ref ca), .val (.int (0 : Int32)), .val (.ref d), .val (.int (0 : Int32)), .val (.int (2 : Int32)), .val (.int (0 : Int32)), .unset] [(.int (0 : Int32)), (.ref ca)])) rfl rfl (hb hby dK5_2_12) t kt) ?_
  refine Go.st (S' := T.setTop (mkF m 15 #[.val (.ref ca), .val (.int (0 : Int32)), .val (.ref d), .val (.int (0 : Int32)), .val (.int (2 : Int32)), .val (.int (0 : Int32)), .val (.int x0)] [])) (fun t kt => XS.istore X.here hx rfl (hb hby dK5_2_13) rfl rfl kt) ?_
  refine Go.st (S' := T.setTop (mkF m 17 #[.val (.ref ca), .val (.int (0 : Int32)), .val (.ref d), .val (.int (0 : Int32)), .val (.int (2 : Int32)), .val (.int (0 : Int32)), .val (.int x0)] [(.int x0)])) (fun t kt => XS.iload X.here hx rfl (hb hby dK5_2_15) rfl kt) ?_
  refine Go.st (S' := T.setTop (mkF m 20 #[.val (.ref ca), .val (.int (0 : Int32)), .val (.ref d), .val (.int (0 : Int32)), .val (.int (2 : Int32)), .val (.int (0 : Int32)), .val (.int x0)] [(.int (255 : Int32)), (.int x0)])) (fun t kt => XT.sipushV X.here hx rfl (255 : Int32) (hb hby dK5_2_17) (by decide) kt) ?_
  refine Go.st (S' := T.setTop (mkF m 26 #[.val (.ref ca), .val (.int (0 : Int32)), .val (.ref d), .val (.int (0 : Int32)), .val (.int (2 : Int32)), .val (.int (0 : Int32)), .val (.int x0)] [])) (fun t kt => XS.icmpYes X.here hx rfl (pc0 := 20) (pc' := 26) rfl (hb hby dK5_2_20) rfl (XT.ii_le_t hx0) (by decide) (by decide) kt) ?_
  refine Go.st (S' := T.setTop (mkF m 27 #[.val (.ref ca), .val (.int (0 : Int32)), .val (.ref d), .val (.int (0 : Int32)), .val (.int (2 : Int32)), .val (.int (0 : Int32)), .val (.int x0)] [(.ref d)])) (fun t kt => XS.aloadN X.here hx rfl (hb hby dK5_2_26) rfl rfl kt) ?_
  refine Go.st (S' := T.setTop (mkF m 28 #[.val (.ref ca), .val (.int (0 : Int32)), .val (.ref d), .val (.int (0 : Int32)), .val (.int (2 : Int32)), .val (.int (0 : Int32)), .val (.int x0)] [(.int (0 : Int32)), (.ref d)])) (fun t kt => XS.iloadN X.here hx rfl (hb hby dK5_2_27) rfl kt) ?_
  refine Go.st (S' := T.setTop (mkF m 30 #[.val (.ref ca), .val (.int (0 : Int32)), .val (.ref d), .val (.int (0 : Int32)), .val (.int (2 : Int32)), .val (.int (0 : Int32)), .val (.int x0)] [(.int x0), (.int (0 : Int32)), (.ref d)])) (fun t kt => XS.iload X.here hx rfl (hb hby dK5_2_28) rfl kt) ?_
  refine Go.st (S' := T.setTop (mkF m 31 #[.val (.ref ca), .val (.int (0 : Int32)), .val (.ref d), .val (.int (0 : Int32)), .val (.int (2 : Int32)), .val (.int (0 : Int32)), .val (.int x0)] [(.int (x0).toInt8.toInt32), (.int (0 : Int32)), (.ref d)])) (fun t kt => XT.i2b X.here hx rfl (hb hby dK5_2_30) rfl kt) ?_
  obtain ⟨cl2, Ar2, q2, S2, M2, H2, G2⟩ := id V_d
  obtain ⟨T2, h2, X2, e2, W2, st2⟩ := stB X hx hZ eT Ar2 (j := (0 : Int32)) (inb_of S2 ⟨by decide, by decide⟩)  (g := (mkF m 31 #[.val (.ref ca), .val (.int (0 : Int32)), .val (.ref d), .val (.int (0 : Int32)), .val (.int (2 : Int32)), .val (.int (0 : Int32)), .val (.int x0)] [(.int (x0).toInt8.toInt32), (.int (0 : Int32)), (.ref d)])) rfl rfl (hb hby dK5_2_31)
  have V2 : Arv Z h2 d kd .byte (2 : Int32) [(.int (nar .byte (x0).toInt8.toInt32)), (.int (0 : Int32))] (.int (0 : Int32)) := Arv.set Ar2 q2 S2 M2 H2 G2 (fits_nar_byte _) W2 0 rfl (Nat.le_of_ble_eq_true rfl)
  have N2 := Fr.snoc X2 N0 hd
  have Z2 : n0 ≤ h2.size := by rw [Wr.size W2]; exact Z0
  have K2 := Keep.wr K0 W2 (Or.inl (List.mem_of_getElem? (i := 0) rfl))
  refine Go.st (S' := T2.setTop (mkF m 32 #[.val (.ref ca), .val (.int (0 : Int32)), .val (.ref d), .val (.int (0 : Int32)), .val (.int (2 : Int32)), .val (.int (0 : Int32)), .val (.int x0)] [])) (fun t kt => st2 t kt) ?_
  refine Go.st (S' := T2.setTop (mkF m 35 #[.val (.ref ca), .val (.int (1 : Int32)), .val (.ref d), .val (.int (0 : Int32)), .val (.int (2 : Int32)), .val (.int (0 : Int32)), .val (.int x0)] [])) (fun t kt => XT.iincV X2.here hx rfl (1 : Int32) (hb hby dK5_2_32) (by decide) rfl rfl kt) ?_
  refine Go.st (S' := T2.setTop (mkF m 38 #[.val (.ref ca), .val (.int (1 : Int32)), .val (.ref d), .val (.int (1 : Int32)), .val (.int (2 : Int32)), .val (.int (0 : Int32)), .val (.int x0)] [])) (fun t kt => XT.iincV X2.here hx rfl (1 : Int32) (hb hby dK5_2_35) (by decide) rfl rfl kt) ?_
  refine Go.st (S' := T2.setTop (mkF m 41 #[.val (.ref ca), .val (.int (1 : Int32)), .val (.ref d), .val (.int (1 : Int32)), .val (.int (2 : Int32)), .val (.int (1 : Int32)), .val (.int x0)] [])) (fun t kt => XT.iincV X2.here hx rfl (1 : Int32) (hb hby dK5_2_38) (by decide) rfl rfl kt) ?_
  refine Go.st (S' := T2.setTop (mkF m 3 #[.val (.ref ca), .val (.int (1 : Int32)), .val (.ref d), .val (.int (1 : Int32)), .val (.int (2 : Int32)), .val (.int (1 : Int32)), .val (.int x0)] [])) (fun t kt => XS.goto X2.here hx rfl (pc0 := 41) (pc' := 3) rfl (hb hby dK5_2_41) (by decide) (by decide) kt) ?_
  refine Go.st (S' := T2.setTop (mkF m 5 #[.val (.ref ca), .val (.int (1 : Int32)), .val (.ref d), .val (.int (1 : Int32)), .val (.int (2 : Int32)), .val (.int (1 : Int32)), .val (.int x0)] [(.int (1 : Int32))])) (fun t kt => XS.iload X2.here hx rfl (hb hby dK5_2_3) rfl kt) ?_
  refine Go.st (S' := T2.setTop (mkF m 7 #[.val (.ref ca), .val (.int (1 : Int32)), .val (.ref d), .val (.int (1 : Int32)), .val (.int (2 : Int32)), .val (.int (1 : Int32)), .val (.int x0)] [(.int (2 : Int32)), (.int (1 : Int32))])) (fun t kt => XS.iload X2.here hx rfl (hb hby dK5_2_5) rfl kt) ?_
  refine Go.st (S' := T2.setTop (mkF m 10 #[.val (.ref ca), .val (.int (1 : Int32)), .val (.ref d), .val (.int (1 : Int32)), .val (.int (2 : Int32)), .val (.int (1 : Int32)), .val (.int x0)] [])) (fun t kt => XS.icmpNo X2.here hx rfl (hb hby dK5_2_7) rfl (XT.ii_ge_f (by decide)) kt) ?_
  refine Go.st (S' := T2.setTop (mkF m 11 #[.val (.ref ca), .val (.int (1 : Int32)), .val (.ref d), .val (.int (1 : Int32)), .val (.int (2 : Int32)), .val (.int (1 : Int32)), .val (.int x0)] [(.ref ca)])) (fun t kt => XS.aloadN X2.here hx rfl (hb hby dK5_2_10) rfl rfl kt) ?_
  refine Go.st (S' := T2.setTop (mkF m 12 #[.val (.ref ca), .val (.int (1 : Int32)), .val (.ref d), .val (.int (1 : Int32)), .val (.int (2 : Int32)), .val (.int (1 : Int32)), .val (.int x0)] [(.int (1 : Int32)), (.ref ca)])) (fun t kt => XS.iloadN X2.here hx rfl (hb hby dK5_2_11) rfl kt) ?_
  have f4 := (V_c.other W2 hcd)
  obtain ⟨cl3, Ar3, q3, S3, M3, H3, G3⟩ := id f4
  refine Go.st (S' := T2.setTop (mkF m 13 #[.val (.ref ca), .val (.int (1 : Int32)), .val (.ref d), .val (.int (1 : Int32)), .val (.int (2 : Int32)), .val (.int (1 : Int32)), .val (.int x0)] [(.int x1)])) (fun t kt => X2.caload hx (j := (1 : Int32)) (v := (.int x1)) (by rw [e2]; exact Ar3.1) (State.isArrayOf_alike hZ.alike Ar3.2.1) Ar3.2.2 (inb_of S3 ⟨by decide, by decide⟩) (Has.at H3 (inb_of S3 ⟨by decide, by decide⟩) rfl) (g := (mkF m 12 #[.val (.ref ca), .val (.int (1 : Int32)), .val (.ref d), .val (.int (1 : Int32)), .val (.int (2 : Int32)), .val (.int (1 : Int32)), .val (.int x0)] [(.int (1 : Int32)), (.ref ca)])) rfl rfl (hb hby dK5_2_12) t kt) ?_
  refine Go.st (S' := T2.setTop (mkF m 15 #[.val (.ref ca), .val (.int (1 : Int32)), .val (.ref d), .val (.int (1 : Int32)), .val (.int (2 : Int32)), .val (.int (1 : Int32)), .val (.int x1)] [])) (fun t kt => XS.istore X2.here hx rfl (hb hby dK5_2_13) rfl rfl kt) ?_
  refine Go.st (S' := T2.setTop (mkF m 17 #[.val (.ref ca), .val (.int (1 : Int32)), .val (.ref d), .val (.int (1 : Int32)), .val (.int (2 : Int32)), .val (.int (1 : Int32)), .val (.int x1)] [(.int x1)])) (fun t kt => XS.iload X2.here hx rfl (hb hby dK5_2_15) rfl kt) ?_
  refine Go.st (S' := T2.setTop (mkF m 20 #[.val (.ref ca), .val (.int (1 : Int32)), .val (.ref d), .val (.int (1 : Int32)), .val (.int (2 : Int32)), .val (.int (1 : Int32)), .val (.int x1)] [(.int (255 : Int32)), (.int x1)])) (fun t kt => XT.sipushV X2.here hx rfl (255 : Int32) (hb hby dK5_2_17) (by decide) kt) ?_
  refine Go.st (S' := T2.setTop (mkF m 26 #[.val (.ref ca), .val (.int (1 : Int32)), .val (.ref d), .val (.int (1 : Int32)), .val (.int (2 : Int32)), .val (.int (1 : Int32)), .val (.int x1)] [])) (fun t kt => XS.icmpYes X2.here hx rfl (pc0 := 20) (pc' := 26) rfl (hb hby dK5_2_20) rfl (XT.ii_le_t hx1) (by decide) (by decide) kt) ?_
  refine Go.st (S' := T2.setTop (mkF m 27 #[.val (.ref ca), .val (.int (1 : Int32)), .val (.ref d), .val (.int (1 : Int32)), .val (.int (2 : Int32)), .val (.int (1 : Int32)), .val (.int x1)] [(.ref d)])) (fun t kt => XS.aloadN X2.here hx rfl (hb hby dK5_2_26) rfl rfl kt) ?_
  refine Go.st (S' := T2.setTop (mkF m 28 #[.val (.ref ca), .val (.int (1 : Int32)), .val (.ref d), .val (.int (1 : Int32)), .val (.int (2 : Int32)), .val (.int (1 : Int32)), .val (.int x1)] [(.int (1 : Int32)), (.ref d)])) (fun t kt => XS.iloadN X2.here hx rfl (hb hby dK5_2_27) rfl kt) ?_
  refine Go.st (S' := T2.setTop (mkF m 30 #[.val (.ref ca), .val (.int (1 : Int32)), .val (.ref d), .val (.int (1 : Int32)), .val (.int (2 : Int32)), .val (.int (1 : Int32)), .val (.int x1)] [(.int x1), (.int (1 : Int32)), (.ref d)])) (fun t kt => XS.iload X2.here hx rfl (hb hby dK5_2_28) rfl kt) ?_
  refine Go.st (S' := T2.setTop (mkF m 31 #[.val (.ref ca), .val (.int (1 : Int32)), .val (.ref d), .val (.int (1 : Int32)), .val (.int (2 : Int32)), .val (.int (1 : Int32)), .val (.int x1)] [(.int (x1).toInt8.toInt32), (.int (1 : Int32)), (.ref d)])) (fun t kt => XT.i2b X2.here hx rfl (hb hby dK5_2_30) rfl kt) ?_
  obtain ⟨cl5, Ar5, q5, S5, M5, H5, G5⟩ := id V2
  obtain ⟨T5, h5, X5, e5, W5, st5⟩ := stB X2 hx hZ e2 Ar5 (j := (1 : Int32)) (inb_of S5 ⟨by decide, by decide⟩)  (g := (mkF m 31 #[.val (.ref ca), .val (.int (1 : Int32)), .val (.ref d), .val (.int (1 : Int32)), .val (.int (2 : Int32)), .val (.int (1 : Int32)), .val (.int x1)] [(.int (x1).toInt8.toInt32), (.int (1 : Int32)), (.ref d)])) rfl rfl (hb hby dK5_2_31)
  have V5 : Arv Z h5 d kd .byte (2 : Int32) [(.int (nar .byte (x0).toInt8.toInt32)), (.int (nar .byte (x1).toInt8.toInt32))] (.int (0 : Int32)) := Arv.set Ar5 q5 S5 M5 H5 G5 (fits_nar_byte _) W5 1 rfl (Nat.le_of_ble_eq_true rfl)
  have N5 := Fr.snoc X5 N2 hd
  have Z5 : n0 ≤ h5.size := by rw [Wr.size W5]; exact Z2
  have K5 := Keep.wr K2 W5 (Or.inl (List.mem_of_getElem? (i := 0) rfl))
  refine Go.st (S' := T5.setTop (mkF m 32 #[.val (.ref ca), .val (.int (1 : Int32)), .val (.ref d), .val (.int (1 : Int32)), .val (.int (2 : Int32)), .val (.int (1 : Int32)), .val (.int x1)] [])) (fun t kt => st5 t kt) ?_
  refine Go.st (S' := T5.setTop (mkF m 35 #[.val (.ref ca), .val (.int (2 : Int32)), .val (.ref d), .val (.int (1 : Int32)), .val (.int (2 : Int32)), .val (.int (1 : Int32)), .val (.int x1)] [])) (fun t kt => XT.iincV X5.here hx rfl (1 : Int32) (hb hby dK5_2_32) (by decide) rfl rfl kt) ?_
  refine Go.st (S' := T5.setTop (mkF m 38 #[.val (.ref ca), .val (.int (2 : Int32)), .val (.ref d), .val (.int (2 : Int32)), .val (.int (2 : Int32)), .val (.int (1 : Int32)), .val (.int x1)] [])) (fun t kt => XT.iincV X5.here hx rfl (1 : Int32) (hb hby dK5_2_35) (by decide) rfl rfl kt) ?_
  refine Go.st (S' := T5.setTop (mkF m 41 #[.val (.ref ca), .val (.int (2 : Int32)), .val (.ref d), .val (.int (2 : Int32)), .val (.int (2 : Int32)), .val (.int (2 : Int32)), .val (.int x1)] [])) (fun t kt => XT.iincV X5.here hx rfl (1 : Int32) (hb hby dK5_2_38) (by decide) rfl rfl kt) ?_
  refine Go.st (S' := T5.setTop (mkF m 3 #[.val (.ref ca), .val (.int (2 : Int32)), .val (.ref d), .val (.int (2 : Int32)), .val (.int (2 : Int32)), .val (.int (2 : Int32)), .val (.int x1)] [])) (fun t kt => XS.goto X5.here hx rfl (pc0 := 41) (pc' := 3) rfl (hb hby dK5_2_41) (by decide) (by decide) kt) ?_
  refine Go.st (S' := T5.setTop (mkF m 5 #[.val (.ref ca), .val (.int (2 : Int32)), .val (.ref d), .val (.int (2 : Int32)), .val (.int (2 : Int32)), .val (.int (2 : Int32)), .val (.int x1)] [(.int (2 : Int32))])) (fun t kt => XS.iload X5.here hx rfl (hb hby dK5_2_3) rfl kt) ?_
  refine Go.st (S' := T5.setTop (mkF m 7 #[.val (.ref ca), .val (.int (2 : Int32)), .val (.ref d), .val (.int (2 : Int32)), .val (.int (2 : Int32)), .val (.int (2 : Int32)), .val (.int x1)] [(.int (2 : Int32)), (.int (2 : Int32))])) (fun t kt => XS.iload X5.here hx rfl (hb hby dK5_2_5) rfl kt) ?_
  refine Go.st (S' := T5.setTop (mkF m 44 #[.val (.ref ca), .val (.int (2 : Int32)), .val (.ref d), .val (.int (2 : Int32)), .val (.int (2 : Int32)), .val (.int (2 : Int32)), .val (.int x1)] [])) (fun t kt => XS.icmpYes X5.here hx rfl (pc0 := 7) (pc' := 44) rfl (hb hby dK5_2_7) rfl (XT.ii_ge_t (by decide)) (by decide) (by decide) kt) ?_
  refine Go.st (S' := T5.setTop (mkF m 46 #[.val (.ref ca), .val (.int (2 : Int32)), .val (.ref d), .val (.int (2 : Int32)), .val (.int (2 : Int32)), .val (.int (2 : Int32)), .val (.int x1)] [(.int (2 : Int32))])) (fun t kt => XS.iload X5.here hx rfl (hb hby dK5_2_44) rfl kt) ?_
  exact ret_i X5 hx hlk hret (hb hby dK5_2_46) (by decide) (by decide) (by rw [e5]; exact ⟨rfl, N5, K5, V5⟩)
theorem dK3_2_0 : decode jdk_52_method_16_code 0 = .ok (.iload_n 2, 1) := by decide +kernel
theorem dK3_2_1 : decode jdk_52_method_16_code 1 = .ok (.newarray .byte, 2) := by decide +kernel
theorem dK3_2_3 : decode jdk_52_method_16_code 3 = .ok (.astore_n 3, 1) := by decide +kernel
theorem dK3_2_4 : decode jdk_52_method_16_code 4 = .ok (.aload_n 0, 1) := by decide +kernel
theorem dK3_2_5 : decode jdk_52_method_16_code 5 = .ok (.iload_n 1, 1) := by decide +kernel
theorem dK3_2_6 : decode jdk_52_method_16_code 6 = .ok (.aload_n 3, 1) := by decide +kernel
theorem dK3_2_7 : decode jdk_52_method_16_code 7 = .ok (.iconst 0, 1) := by decide +kernel
theorem dK3_2_8 : decode jdk_52_method_16_code 8 = .ok (.iload_n 2, 1) := by decide +kernel
theorem dK3_2_9 : decode jdk_52_method_16_code 9 = .ok (.invokestatic 115, 3) := by decide +kernel
theorem dK3_2_12 : decode jdk_52_method_16_code 12 = .ok (.istore 4, 2) := by decide +kernel
theorem dK3_2_14 : decode jdk_52_method_16_code 14 = .ok (.iload 4, 2) := by decide +kernel
theorem dK3_2_16 : decode jdk_52_method_16_code 16 = .ok (.iload_n 2, 1) := by decide +kernel
theorem dK3_2_17 : decode jdk_52_method_16_code 17 = .ok (.if_icmp .eq 40, 3) := by decide +kernel
theorem dK3_2_57 : decode jdk_52_method_16_code 57 = .ok (.aload_n 3, 1) := by decide +kernel
theorem dK3_2_58 : decode jdk_52_method_16_code 58 = .ok (.areturn, 1) := by decide +kernel
theorem ef_rmK3_2 (m : MethodId) (ca : Addr) : entryFrame m #[(.ref ca), (.int (0 : Int32)), (.int (2 : Int32))] 6 = mkF m 0 #[.val (.ref ca), .val (.int (0 : Int32)), .val (.int (2 : Int32)), .unset, .unset, .unset] [] := by first | exact own_entry rfl | (simp [entryFrame, mkF, argsToLocals, Value.category]; done) | rfl
set_option maxRecDepth 65536 in
set_option maxHeartbeats 40000000 in
theorem rmK3_2 (l : Launch) (Z : State) (a0 : Array Value) (hw : ∀ d ∈ tables_1, d.before a0 Z = true) (ca : Addr) (kc : ClassId) (x0 x1 : Int32) (h0 : Heap) (n0 : Nat) (Z0 : n0 ≤ h0.size) (V_c : Arv Z h0 ca kc .char (2 : Int32) [(.int x0), (.int x1)] (.int (0 : Int32))) (hx0 : ¬ (255 : Int32) < x0) (hx1 : ¬ (255 : Int32) < x1) :
    Pays l (⟨"java/lang/StringUTF16", "compress", "([CII)[B"⟩ : MethodName) jdk_52_method_16_code 6 (some (.array .byte)) ({ frames := 1, cells := 1, slots := 2, locals := 18 } : Room) Z #[(.ref ca), (.int (0 : Int32)), (.int (2 : Int32))] h0 (fun v h L => ∃ d k, v = some (.ref d) ∧ Fr n0 L ∧ Keep h0 h [] ∧ h0.size ≤ d ∧ n0 ≤ d ∧ Arv Z h d k .byte (2 : Int32) [(.int (nar .byte (x0).toInt8.toInt32)), (.int (nar .byte (x1).toInt8.toInt32))] (.int (0 : Int32))) := by
  refine Pays.of (plainFor_of_name pn_java_lang_StringUTF16) ?_
  intro pP eE sS m below methM cC T hx hby hml hret hlk hZ hown hnm eT X
  replace hown : sS.vm.findClass "java/lang/StringUTF16" = some m.cls := hown
  have N0 := Fr.nil n0
  have K0 := Keep.refl h0 ([] : List Addr)
  refine Go.cast (ef_rmK3_2 m ca) ?_
  refine Go.st (S' := T.setTop (mkF m 1 #[.val (.ref ca), .val (.int (0 : Int32)), .val (.int (2 : Int32)), .unset, .unset, .unset] [(.int (2 : Int32))])) (fun t kt => XS.iloadN X.here hx rfl (hb hby dK3_2_0) rfl kt) ?_
  obtain ⟨T1, h1, k1, X1, e1, E1, A1, st1⟩ := newP X hx hZ (hw _ (List.mem_of_getElem? (i := 64) rfl)) eT (g := (mkF m 1 #[.val (.ref ca), .val (.int (0 : Int32)), .val (.int (2 : Int32)), .unset, .unset, .unset] [(.int (2 : Int32))])) rfl (hb hby dK3_2_1) rfl (by decide) (cap := 2) (by decide) (by decide) (by decide) (by decide)
  obtain ⟨a1, g1⟩ : ∃ z, z = h0.size := ⟨_, rfl⟩
  rw [← g1] at A1 st1
  have V1 : Arv Z h1 a1 k1 .byte (2 : Int32) [(.int (0 : Int32)), (.int (0 : Int32))] (.int (0 : Int32)) := Arv.pad (Arv.new A1 (by decide)) (pad_rep [] _ 2)
  have Z1 : n0 ≤ h1.size := Nat.le_trans Z0 E1.1
  have K1 := Keep.ext K0 E1
  have sz_a1 : h0.size ≤ a1 := Nat.le_trans K0.1 (Nat.le_of_eq g1.symm)
  refine Go.st (S' := T1.setTop (mkF m 3 #[.val (.ref ca), .val (.int (0 : Int32)), .val (.int (2 : Int32)), .unset, .unset, .unset] [(.ref a1)])) (fun t kt => st1 t kt) ?_
  refine Go.st (S' := T1.setTop (mkF m 4 #[.val (.ref ca), .val (.int (0 : Int32)), .val (.int (2 : Int32)), .val (.ref a1), .unset, .unset] [])) (fun t kt => XS.astoreN X1.here hx rfl (hb hby dK3_2_3) rfl rfl rfl kt) ?_
  refine Go.st (S' := T1.setTop (mkF m 5 #[.val (.ref ca), .val (.int (0 : Int32)), .val (.int (2 : Int32)), .val (.ref a1), .unset, .unset] [(.ref ca)])) (fun t kt => XS.aloadN X1.here hx rfl (hb hby dK3_2_4) rfl rfl kt) ?_
  refine Go.st (S' := T1.setTop (mkF m 6 #[.val (.ref ca), .val (.int (0 : Int32)), .val (.int (2 : Int32)), .val (.ref a1), .unset, .unset] [(.int (0 : Int32)), (.ref ca)])) (fun t kt => XS.iloadN X1.here hx rfl (hb hby dK3_2_5) rfl kt) ?_
  refine Go.st (S' := T1.setTop (mkF m 7 #[.val (.ref ca), .val (.int (0 : Int32)), .val (.int (2 : Int32)), .val (.ref a1), .unset, .unset] [(.ref a1), (.int (0 : Int32)), (.ref ca)])) (fun t kt => XS.aloadN X1.here hx rfl (hb hby dK3_2_6) rfl rfl kt) ?_
  refine Go.st (S' := T1.setTop (mkF m 8 #[.val (.ref ca), .val (.int (0 : Int32)), .val (.int (2 : Int32)), .val (.ref a1), .unset, .unset] [(.int (0 : Int32)), (.ref a1), (.int (0 : Int32)), (.ref ca)])) (fun t kt => XS.iconst X1.here hx rfl (hb hby dK3_2_7) kt) ?_
  refine Go.st (S' := T1.setTop (mkF m 9 #[.val (.ref ca), .val (.int (0 : Int32)), .val (.int (2 : Int32)), .val (.ref a1), .unset, .unset] [(.int (2 : Int32)), (.int (0 : Int32)), (.ref a1), (.int (0 : Int32)), (.ref ca)])) (fun t kt => XS.iloadN X1.here hx rfl (hb hby dK3_2_8) rfl kt) ?_
  have f2 := (V_c.ext E1)
  refine Go.stat X1 hx hZ hown (hw _ (List.mem_of_getElem? (i := 65) rfl)) (hw _ (List.mem_of_getElem? (i := 66) rfl)) (hw _ (List.mem_of_getElem? (i := 62) rfl)) (hw _ (List.mem_of_getElem? (i := 67) rfl)) (by decide) (argsL := [(.ref ca), (.int (0 : Int32)), (.ref a1), (.int (0 : Int32)), (.int (2 : Int32))]) (rest := []) (rmK5_2 l Z a0 hw ca a1 kc k1 x0 x1 h1 n0 Z1 f2 V1 (Nat.ne_of_lt (by rw [g1]; exact V_c.lt)) (Nat.le_trans Z0 (Nat.le_of_eq g1.symm)) hx0 hx1) e1 rfl (by rw [hml]; rfl) pd___CI_BII_I rfl (hb hby dK3_2_9) 0 (Nat.le_refl _) (by decide) (by decide) (by decide) (by decide) ?_
  intro v3 T3 L3 X3 hQ3
  obtain ⟨hv3, N3', K3', f3_0⟩ := hQ3
  subst hv3
  have N3 := Fr.app N0 N3'
  have Z3 : n0 ≤ T3.heap.size := Nat.le_trans Z1 K3'.1
  have eh3 : T3.heap = T3.heap := rfl
  have K3 := Keep.trans K1 K3' (allS (Or.inr sz_a1) all0)
  show Go pP eE below _ (T3.setTop (mkF m 12 #[.val (.ref ca), .val (.int (0 : Int32)), .val (.int (2 : Int32)), .val (.ref a1), .unset, .unset] [(.int (2 : Int32))]))
  refine Go.st (S' := T3.setTop (mkF m 14 #[.val (.ref ca), .val (.int (0 : Int32)), .val (.int (2 : Int32)), .val (.ref a1), .val (.int (2 : Int32)), .unset] [])) (fun t kt => XS.istore X3.here hx rfl (hb hby dK3_2_12) rfl rfl kt) ?_
  refine Go.st (S' := T3.setTop (mkF m 16 #[.val (.ref ca), .val (.int (0 : Int32)), .val (.int (2 : Int32)), .val (.ref a1), .val (.int (2 : Int32)), .unset] [(.int (2 : Int32))])) (fun t kt => XS.iload X3.here hx rfl (hb hby dK3_2_14) rfl kt) ?_
  refine Go.st (S' := T3.setTop (mkF m 17 #[.val (.ref ca), .val (.int (0 : Int32)), .val (.int (2 : Int32)), .val (.ref a1), .val (.int (2 : Int32)), .unset] [(.int (2 : Int32)), (.int (2 : Int32))])) (fun t kt => XS.iloadN X3.here hx rfl (hb hby dK3_2_16) rfl kt) ?_
  refine Go.st (S' := T3.setTop (mkF m 57 #[.val (.ref ca), .val (.int (0 : Int32)), .val (.int (2 : Int32)), .val (.ref a1), .val (.int (2 : Int32)), .unset] [])) (fun t kt => XS.icmpYes X3.here hx rfl (pc0 := 17) (pc' := 57) rfl (hb hby dK3_2_17) rfl (XT.ii_eq_t (by decide)) (by decide) (by decide) kt) ?_
  refine Go.st (S' := T3.setTop (mkF m 58 #[.val (.ref ca), .val (.int (0 : Int32)), .val (.int (2 : Int32)), .val (.ref a1), .val (.int (2 : Int32)), .unset] [(.ref a1)])) (fun t kt => XS.aloadN X3.here hx rfl (hb hby dK3_2_57) rfl rfl kt) ?_
  exact ret_a X3 hx hlk hret rfl rfl (hb hby dK3_2_58) (by decide) (by decide) (⟨_, _, rfl, N3, K3, sz_a1, (Nat.le_trans Z0 (Nat.le_of_eq g1.symm)), f3_0⟩)
theorem dKF_2_0 : decode jdk_52_method_15_code 0 = .ok (.iload_n 1, 1) := by decide +kernel
theorem dKF_2_1 : decode jdk_52_method_15_code 1 = .ok (.aload_n 0, 1) := by decide +kernel
theorem dKF_2_2 : decode jdk_52_method_15_code 2 = .ok (.arraylength, 1) := by decide +kernel
theorem dKF_2_3 : decode jdk_52_method_15_code 3 = .ok (.isub, 1) := by decide +kernel
theorem dKF_2_4 : decode jdk_52_method_15_code 4 = .ok (.bipush 31, 2) := by decide +kernel
theorem dKF_2_6 : decode jdk_52_method_15_code 6 = .ok (.iushr, 1) := by decide +kernel
theorem dKF_2_7 : decode jdk_52_method_15_code 7 = .ok (.i2b, 1) := by decide +kernel
theorem dKF_2_8 : decode jdk_52_method_15_code 8 = .ok (.ireturn, 1) := by decide +kernel
theorem ef_rmKF_2 (m : MethodId) (d : Addr) : entryFrame m #[(.ref d), (.int (2 : Int32))] 2 = mkF m 0 #[.val (.ref d), .val (.int (2 : Int32))] [] := by first | exact own_entry rfl | (simp [entryFrame, mkF, argsToLocals, Value.category]; done) | rfl
set_option maxRecDepth 65536 in
set_option maxHeartbeats 40000000 in
theorem rmKF_2 (l : Launch) (Z : State) (a0 : Array Value) (hw : ∀ d ∈ tables_1, d.before a0 Z = true) (d : Addr) (kd : ClassId) (x0 x1 : Int32) (h0 : Heap) (n0 : Nat) (Z0 : n0 ≤ h0.size) (V_d : Arv Z h0 d kd .byte (2 : Int32) [(.int (nar .byte (x0).toInt8.toInt32)), (.int (nar .byte (x1).toInt8.toInt32))] (.int (0 : Int32))) :
    Pays l (⟨"java/lang/StringUTF16", "coderFromArrayLen", "([BI)B"⟩ : MethodName) jdk_52_method_15_code 2 (some .byte) ({ frames := 0, cells := 0, slots := 0, locals := 0 } : Room) Z #[(.ref d), (.int (2 : Int32))] h0 (fun v h L => v = some (.int (0 : Int32)) ∧ Fr n0 L ∧ h = h0) := by
  refine Pays.of (plainFor_of_name pn_java_lang_StringUTF16) ?_
  intro pP eE sS m below methM cC T hx hby hml hret hlk hZ hown hnm eT X
  replace hown : sS.vm.findClass "java/lang/StringUTF16" = some m.cls := hown
  have N0 := Fr.nil n0
  refine Go.cast (ef_rmKF_2 m d) ?_
  refine Go.st (S' := T.setTop (mkF m 1 #[.val (.ref d), .val (.int (2 : Int32))] [(.int (2 : Int32))])) (fun t kt => XS.iloadN X.here hx rfl (hb hby dKF_2_0) rfl kt) ?_
  refine Go.st (S' := T.setTop (mkF m 2 #[.val (.ref d), .val (.int (2 : Int32))] [(.ref d), (.int (2 : Int32))])) (fun t kt => XS.aloadN X.here hx rfl (hb hby dKF_2_1) rfl rfl kt) ?_
  obtain ⟨cl1, Ar1, q1, S1, M1, H1, G1⟩ := id V_d
  refine Go.st (S' := T.setTop (mkF m 3 #[.val (.ref d), .val (.int (2 : Int32))] [(.int (2 : Int32)), (.int (2 : Int32))])) (fun t kt => own_alen X hx hZ eT Ar1 (len_of S1 M1) rfl (hb hby dKF_2_2) t kt) ?_
  refine Go.st (S' := T.setTop (mkF m 4 #[.val (.ref d), .val (.int (2 : Int32))] [(.int (0 : Int32))])) (fun t kt => XS.isub X.here hx rfl (hb hby dKF_2_3) rfl kt) ?_
  refine Go.st (S' := T.setTop (mkF m 6 #[.val (.ref d), .val (.int (2 : Int32))] [(.int (31 : Int32)), (.int (0 : Int32))])) (fun t kt => XT.bipushV X.here hx rfl (31 : Int32) (hb hby dKF_2_4) (by decide) kt) ?_
  refine Go.st (S' := T.setTop (mkF m 7 #[.val (.ref d), .val (.int (2 : Int32))] [(.int (0 : Int32))])) (fun t kt => XT.iushr X.here hx rfl (hb hby dKF_2_6) rfl kt) ?_
  refine Go.st (S' := T.setTop (mkF m 8 #[.val (.ref d), .val (.int (2 : Int32))] [(.int (0 : Int32))])) (fun t kt => XT.i2b X.here hx rfl (hb hby dKF_2_7) rfl kt) ?_
  exact ret_y X hx hlk hret (hb hby dKF_2_8) (by decide) (by decide) (⟨rfl, N0, eT⟩)
theorem dK4_2_0 : decode jdk_42_method_149_code 0 = .ok (.aload_n 0, 1) := by decide +kernel
theorem dK4_2_1 : decode jdk_42_method_149_code 1 = .ok (.invokespecial 1, 3) := by decide +kernel
theorem dK4_2_4 : decode jdk_42_method_149_code 4 = .ok (.iload_n 3, 1) := by decide +kernel
theorem dK4_2_5 : decode jdk_42_method_149_code 5 = .ok (.ifCond .ne 22, 3) := by decide +kernel
theorem dK4_2_27 : decode jdk_42_method_149_code 27 = .ok (.getstatic 38, 3) := by decide +kernel
theorem dK4_2_30 : decode jdk_42_method_149_code 30 = .ok (.ifCond .eq 28, 3) := by decide +kernel
theorem dK4_2_33 : decode jdk_42_method_149_code 33 = .ok (.aload_n 1, 1) := by decide +kernel
theorem dK4_2_34 : decode jdk_42_method_149_code 34 = .ok (.iload_n 2, 1) := by decide +kernel
theorem dK4_2_35 : decode jdk_42_method_149_code 35 = .ok (.iload_n 3, 1) := by decide +kernel
theorem dK4_2_36 : decode jdk_42_method_149_code 36 = .ok (.invokestatic 177, 3) := by decide +kernel
theorem dK4_2_39 : decode jdk_42_method_149_code 39 = .ok (.astore 5, 2) := by decide +kernel
theorem dK4_2_41 : decode jdk_42_method_149_code 41 = .ok (.aload_n 0, 1) := by decide +kernel
theorem dK4_2_42 : decode jdk_42_method_149_code 42 = .ok (.aload 5, 2) := by decide +kernel
theorem dK4_2_44 : decode jdk_42_method_149_code 44 = .ok (.iload_n 3, 1) := by decide +kernel
theorem dK4_2_45 : decode jdk_42_method_149_code 45 = .ok (.invokestatic 47, 3) := by decide +kernel
theorem dK4_2_48 : decode jdk_42_method_149_code 48 = .ok (.putfield 15, 3) := by decide +kernel
theorem dK4_2_51 : decode jdk_42_method_149_code 51 = .ok (.aload_n 0, 1) := by decide +kernel
theorem dK4_2_52 : decode jdk_42_method_149_code 52 = .ok (.aload 5, 2) := by decide +kernel
theorem dK4_2_54 : decode jdk_42_method_149_code 54 = .ok (.putfield 9, 3) := by decide +kernel
theorem dK4_2_57 : decode jdk_42_method_149_code 57 = .ok (.return_, 1) := by decide +kernel
theorem ef_rmK4_2 (m : MethodId) (a : Addr) (ca : Addr) : entryFrame m #[(.ref a), (.ref ca), (.int (0 : Int32)), (.int (2 : Int32)), .null] 6 = mkF m 0 #[.val (.ref a), .val (.ref ca), .val (.int (0 : Int32)), .val (.int (2 : Int32)), .val .null, .unset] [] := by first | exact own_entry rfl | (simp [entryFrame, mkF, argsToLocals, Value.category]; done) | rfl
set_option maxRecDepth 65536 in
set_option maxHeartbeats 40000000 in
theorem rmK4_2 (l : Launch) (Z : State) (a0 : Array Value) (hw : ∀ d ∈ tables_1, d.before a0 Z = true) (a ca : Addr) (kc : ClassId) (x0 x1 : Int32) (h0 : Heap) (n0 : Nat) (Z0 : n0 ≤ h0.size) (E_a : Exa Z h0 a "java/lang/String") (ha : n0 ≤ a) (hca : ca ≠ a) (F_value : Fld Z h0 a "java/lang/String" "value" "[B" .null) (F_coder : Fld Z h0 a "java/lang/String" "coder" "B" (.int (0 : Int32))) (V_c : Arv Z h0 ca kc .char (2 : Int32) [(.int x0), (.int x1)] (.int (0 : Int32))) (hx0 : ¬ (255 : Int32) < x0) (hx1 : ¬ (255 : Int32) < x1) (cs : Int32) (S_cs : Sta Z h0 "java/lang/String" "COMPACT_STRINGS" "Z" (.int cs)) (hcs : ¬ cs = 0) :
    Pays l (⟨"java/lang/String", "<init>", "([CIILjava/lang/Void;)V"⟩ : MethodName) jdk_42_method_149_code 6 none ({ frames := 2, cells := 1, slots := 2, locals := 35 } : Room) Z #[(.ref a), (.ref ca), (.int (0 : Int32)), (.int (2 : Int32)), .null] h0 (fun v h L => ∃ d k, v = none ∧ Fr n0 L ∧ Keep h0 h [a] ∧ h0.size ≤ d ∧ n0 ≤ d ∧ Exa Z h a "java/lang/String" ∧ Fld Z h a "java/lang/String" "value" "[B" (.ref d) ∧ Fld Z h a "java/lang/String" "coder" "B" (.int (0 : Int32)) ∧ Arv Z h d k .byte (2 : Int32) [(.int (nar .byte (x0).toInt8.toInt32)), (.int (nar .byte (x1).toInt8.toInt32))] (.int (0 : Int32))) := by
  refine Pays.of (plainFor_of_name pn_java_lang_String) ?_
  intro pP eE sS m below methM cC T hx hby hml hret hlk hZ hown hnm eT X
  replace hown : sS.vm.findClass "java/lang/String" = some m.cls := hown
  have N0 := Fr.nil n0
  have K0 := Keep.refl h0 [a]
  refine Go.cast (ef_rmK4_2 m a ca) ?_
  refine Go.st (S' := T.setTop (mkF m 1 #[.val (.ref a), .val (.ref ca), .val (.int (0 : Int32)), .val (.int (2 : Int32)), .val .null, .unset] [(.ref a)])) (fun t kt => XS.aloadN X.here hx rfl (hb hby dK4_2_0) rfl rfl kt) ?_
  obtain ⟨T1, X1, e1, st1⟩ := initO X hx hZ hown (hw _ (List.mem_of_getElem? (i := 58) rfl)) (hw _ (List.mem_of_getElem? (i := 25) rfl)) (hw _ (List.mem_of_getElem? (i := 26) rfl)) eT (g := (mkF m 1 #[.val (.ref a), .val (.ref ca), .val (.int (0 : Int32)), .val (.int (2 : Int32)), .val .null, .unset] [(.ref a)])) rfl (by rw [hml]; rfl) rfl (hb hby dK4_2_1) (by decide) (W := 0) (by show 2 * 0 + _ ≤ _; exact Nat.le_of_eq rfl) (by decide)
  refine Go.st (S' := T1.setTop (mkF m 4 #[.val (.ref a), .val (.ref ca), .val (.int (0 : Int32)), .val (.int (2 : Int32)), .val .null, .unset] [])) (fun t kt => st1 t kt) ?_
  refine Go.st (S' := T1.setTop (mkF m 5 #[.val (.ref a), .val (.ref ca), .val (.int (0 : Int32)), .val (.int (2 : Int32)), .val .null, .unset] [(.int (2 : Int32))])) (fun t kt => XS.iloadN X1.here hx rfl (hb hby dK4_2_4) rfl kt) ?_
  refine Go.st (S' := T1.setTop (mkF m 27 #[.val (.ref a), .val (.ref ca), .val (.int (0 : Int32)), .val (.int (2 : Int32)), .val .null, .unset] [])) (fun t kt => XS.ifYes X1.here hx rfl (pc0 := 5) (pc' := 27) rfl (hb hby dK4_2_5) rfl (XT.i0_ne_t (by decide)) (by decide) (by decide) kt) ?_
  obtain ⟨T2, X2, e2, st2⟩ := getS X1 hx hZ (host := "") hown (hw _ (List.mem_of_getElem? (i := 59) rfl)) Via.refl e1 S_cs (g := (mkF m 27 #[.val (.ref a), .val (.ref ca), .val (.int (0 : Int32)), .val (.int (2 : Int32)), .val .null, .unset] [])) rfl (hb hby dK4_2_27)
  refine Go.st (S' := T2.setTop (mkF m 30 #[.val (.ref a), .val (.ref ca), .val (.int (0 : Int32)), .val (.int (2 : Int32)), .val .null, .unset] [(.int cs)])) (fun t kt => st2 t kt) ?_
  refine Go.st (S' := T2.setTop (mkF m 33 #[.val (.ref a), .val (.ref ca), .val (.int (0 : Int32)), .val (.int (2 : Int32)), .val .null, .unset] [])) (fun t kt => XS.ifNo X2.here hx rfl (hb hby dK4_2_30) rfl (XT.i0_eq_f hcs) kt) ?_
  refine Go.st (S' := T2.setTop (mkF m 34 #[.val (.ref a), .val (.ref ca), .val (.int (0 : Int32)), .val (.int (2 : Int32)), .val .null, .unset] [(.ref ca)])) (fun t kt => XS.aloadN X2.here hx rfl (hb hby dK4_2_33) rfl rfl kt) ?_
  refine Go.st (S' := T2.setTop (mkF m 35 #[.val (.ref a), .val (.ref ca), .val (.int (0 : Int32)), .val (.int (2 : Int32)), .val .null, .unset] [(.int (0 : Int32)), (.ref ca)])) (fun t kt => XS.iloadN X2.here hx rfl (hb hby dK4_2_34) rfl kt) ?_
  refine Go.st (S' := T2.setTop (mkF m 36 #[.val (.ref a), .val (.ref ca), .val (.int (0 : Int32)), .val (.int (2 : Int32)), .val .null, .unset] [(.int (2 : Int32)), (.int (0 : Int32)), (.ref ca)])) (fun t kt => XS.iloadN X2.here hx rfl (hb hby dK4_2_35) rfl kt) ?_
  refine Go.stat X2 hx hZ hown (hw _ (List.mem_of_getElem? (i := 60) rfl)) (hw _ (List.mem_of_getElem? (i := 61) rfl)) (hw _ (List.mem_of_getElem? (i := 62) rfl)) (hw _ (List.mem_of_getElem? (i := 63) rfl)) (by decide) (argsL := [(.ref ca), (.int (0 : Int32)), (.int (2 : Int32))]) (rest := []) (rmK3_2 l Z a0 hw ca kc x0 x1 h0 n0 Z0 V_c hx0 hx1) e2 rfl (by rw [hml]; rfl) pd___CII__B rfl (hb hby dK4_2_36) 0 (Nat.le_refl _) (by decide) (by decide) (by decide) (by decide) ?_
  intro v3 T3 L3 X3 hQ3
  obtain ⟨d3, k3, hv3, N3', K3', y3_0, u3_0, f3_0⟩ := hQ3
  subst hv3
  have N3 := Fr.app N0 N3'
  have Z3 : n0 ≤ T3.heap.size := Nat.le_trans Z0 K3'.1
  have eh3 : T3.heap = T3.heap := rfl
  have sz_d3 : h0.size ≤ d3 := Nat.le_trans K0.1 y3_0
  have K3 := Keep.trans K0 K3' all0
  show Go pP eE below _ (T3.setTop (mkF m 39 #[.val (.ref a), .val (.ref ca), .val (.int (0 : Int32)), .val (.int (2 : Int32)), .val .null, .unset] [(.ref d3)]))
  refine Go.st (S' := T3.setTop (mkF m 41 #[.val (.ref a), .val (.ref ca), .val (.int (0 : Int32)), .val (.int (2 : Int32)), .val .null, .val (.ref d3)] [])) (fun t kt => XS.astore X3.here hx rfl (hb hby dK4_2_39) rfl rfl rfl kt) ?_
  refine Go.st (S' := T3.setTop (mkF m 42 #[.val (.ref a), .val (.ref ca), .val (.int (0 : Int32)), .val (.int (2 : Int32)), .val .null, .val (.ref d3)] [(.ref a)])) (fun t kt => XS.aloadN X3.here hx rfl (hb hby dK4_2_41) rfl rfl kt) ?_
  refine Go.st (S' := T3.setTop (mkF m 44 #[.val (.ref a), .val (.ref ca), .val (.int (0 : Int32)), .val (.int (2 : Int32)), .val .null, .val (.ref d3)] [(.ref d3), (.ref a)])) (fun t kt => XS.aload X3.here hx rfl (hb hby dK4_2_42) rfl rfl kt) ?_
  refine Go.st (S' := T3.setTop (mkF m 45 #[.val (.ref a), .val (.ref ca), .val (.int (0 : Int32)), .val (.int (2 : Int32)), .val .null, .val (.ref d3)] [(.int (2 : Int32)), (.ref d3), (.ref a)])) (fun t kt => XS.iloadN X3.here hx rfl (hb hby dK4_2_44) rfl kt) ?_
  refine Go.stat X3 hx hZ hown (hw _ (List.mem_of_getElem? (i := 68) rfl)) (hw _ (List.mem_of_getElem? (i := 69) rfl)) (hw _ (List.mem_of_getElem? (i := 62) rfl)) (hw _ (List.mem_of_getElem? (i := 70) rfl)) (by decide) (argsL := [(.ref d3), (.int (2 : Int32))]) (rest := [(.ref a)]) (rmKF_2 l Z a0 hw d3 k3 x0 x1 T3.heap n0 Z3 f3_0) eh3 rfl (by rw [hml]; rfl) pd___BI_B rfl (hb hby dK4_2_45) 1 (Nat.le_refl _) (by decide) (by decide) (by decide) (by decide) ?_
  intro v4 T4 L4 X4 hQ4
  obtain ⟨hv4, N4', e4⟩ := hQ4
  subst hv4
  have N4 := Fr.app N3 N4'
  show Go pP eE below _ (T4.setTop (mkF m 48 #[.val (.ref a), .val (.ref ca), .val (.int (0 : Int32)), .val (.int (2 : Int32)), .val .null, .val (.ref d3)] [(.int (0 : Int32)), (.ref a)]))
  have f5 := (F_coder.keep K3' nin0)
  have f6 := (E_a.keep K3')
  obtain ⟨T7, h7, X7, e7, W7, st7⟩ := putF X4 hx hZ hown (host := "") (Or.inl (hw _ (List.mem_of_getElem? (i := 71) rfl))) Via.refl e4 f5 f6 (Or.inr ⟨(hw _ (List.mem_of_getElem? (i := 72) rfl)), rfl, hnm⟩) (hw _ (List.mem_of_getElem? (i := 48) rfl)) (ty := .byte) (by decide) rfl rfl (g := (mkF m 48 #[.val (.ref a), .val (.ref ca), .val (.int (0 : Int32)), .val (.int (2 : Int32)), .val .null, .val (.ref d3)] [(.int (0 : Int32)), (.ref a)])) rfl rfl (hb hby dK4_2_48)
  have F7 := Fld.same W7 f5
  have N7 := Fr.snoc X7 N4 ha
  have Z7 : n0 ≤ h7.size := by rw [Wr.size W7]; exact Z3
  have K7 := Keep.wr K3 W7 (Or.inl (List.mem_of_getElem? (i := 0) rfl))
  refine Go.st (S' := T7.setTop (mkF m 51 #[.val (.ref a), .val (.ref ca), .val (.int (0 : Int32)), .val (.int (2 : Int32)), .val .null, .val (.ref d3)] [])) (fun t kt => st7 t kt) ?_
  refine Go.st (S' := T7.setTop (mkF m 52 #[.val (.ref a), .val (.ref ca), .val (.int (0 : Int32)), .val (.int (2 : Int32)), .val .null, .val (.ref d3)] [(.ref a)])) (fun t kt => XS.aloadN X7.here hx rfl (hb hby dK4_2_51) rfl rfl kt) ?_
  refine Go.st (S' := T7.setTop (mkF m 54 #[.val (.ref a), .val (.ref ca), .val (.int (0 : Int32)), .val (.int (2 : Int32)), .val .null, .val (.ref d3)] [(.ref d3), (.ref a)])) (fun t kt => XS.aload X7.here hx rfl (hb hby dK4_2_52) rfl rfl kt) ?_
  have f8 := (Fld.other W7 (F_value.keep K3' nin0) (Or.inr (slot_ne (Or.inr (hw _ (List.mem_of_getElem? (i := 74) rfl))) (Or.inr (hw _ (List.mem_of_getElem? (i := 72) rfl))) (by decide) (t := (.array .byte)) (t' := .byte) (by decide) (by decide))))
  have f9 := (Exa.wr W7 f6)
  obtain ⟨T10, h10, X10, e10, W10, st10⟩ := putF X7 hx hZ hown (host := "") (Or.inl (hw _ (List.mem_of_getElem? (i := 73) rfl))) Via.refl e7 f8 f9 (Or.inr ⟨(hw _ (List.mem_of_getElem? (i := 74) rfl)), rfl, hnm⟩) (hw _ (List.mem_of_getElem? (i := 48) rfl)) (ty := (.array .byte)) (by decide) rfl rfl (g := (mkF m 54 #[.val (.ref a), .val (.ref ca), .val (.int (0 : Int32)), .val (.int (2 : Int32)), .val .null, .val (.ref d3)] [(.ref d3), (.ref a)])) rfl rfl (hb hby dK4_2_54)
  have F10 := Fld.same W10 f8
  have N10 := Fr.snoc X10 N7 ha
  have Z10 : n0 ≤ h10.size := by rw [Wr.size W10]; exact Z7
  have K10 := Keep.wr K7 W10 (Or.inl (List.mem_of_getElem? (i := 0) rfl))
  refine Go.st (S' := T10.setTop (mkF m 57 #[.val (.ref a), .val (.ref ca), .val (.int (0 : Int32)), .val (.int (2 : Int32)), .val .null, .val (.ref d3)] [])) (fun t kt => st10 t kt) ?_
  have f11 := (Exa.wr W10 f9)
  have f12 := (Fld.other W10 F7 (Or.inr (slot_ne (Or.inr (hw _ (List.mem_of_getElem? (i := 72) rfl))) (Or.inr (hw _ (List.mem_of_getElem? (i := 74) rfl))) (by decide) (t := .byte) (t' := (.array .byte)) (by decide) (by decide))))
  have f13 := ((f3_0.other W7 (Ne.symm (Nat.ne_of_lt (Nat.lt_of_lt_of_le E_a.lt y3_0)))).other W10 (Ne.symm (Nat.ne_of_lt (Nat.lt_of_lt_of_le E_a.lt y3_0))))
  exact ret_v X10 hx hlk hret (hb hby dK4_2_57) (by decide) (by decide) (by rw [e10]; exact ⟨_, _, rfl, N10, K10, sz_d3, u3_0, f11, F10, f12, f13⟩)
theorem dK1_2_0 : decode jdk_42_method_3_code 0 = .ok (.aload_n 0, 1) := by decide +kernel
theorem dK1_2_1 : decode jdk_42_method_3_code 1 = .ok (.aload_n 1, 1) := by decide +kernel
theorem dK1_2_2 : decode jdk_42_method_3_code 2 = .ok (.iconst 0, 1) := by decide +kernel
theorem dK1_2_3 : decode jdk_42_method_3_code 3 = .ok (.aload_n 1, 1) := by decide +kernel
theorem dK1_2_4 : decode jdk_42_method_3_code 4 = .ok (.arraylength, 1) := by decide +kernel
theorem dK1_2_5 : decode jdk_42_method_3_code 5 = .ok (.aconst_null, 1) := by decide +kernel
theorem dK1_2_6 : decode jdk_42_method_3_code 6 = .ok (.invokespecial 27, 3) := by decide +kernel
theorem dK1_2_9 : decode jdk_42_method_3_code 9 = .ok (.return_, 1) := by decide +kernel
theorem ef_rmK1_2 (m : MethodId) (a : Addr) (ca : Addr) : entryFrame m #[(.ref a), (.ref ca)] 2 = mkF m 0 #[.val (.ref a), .val (.ref ca)] [] := by first | exact own_entry rfl | (simp [entryFrame, mkF, argsToLocals, Value.category]; done) | rfl
set_option maxRecDepth 65536 in
set_option maxHeartbeats 40000000 in
theorem rmK1_2 (l : Launch) (Z : State) (a0 : Array Value) (hw : ∀ d ∈ tables_1, d.before a0 Z = true) (a ca : Addr) (kc : ClassId) (x0 x1 : Int32) (h0 : Heap) (n0 : Nat) (Z0 : n0 ≤ h0.size) (E_a : Exa Z h0 a "java/lang/String") (ha : n0 ≤ a) (hca : ca ≠ a) (F_value : Fld Z h0 a "java/lang/String" "value" "[B" .null) (F_coder : Fld Z h0 a "java/lang/String" "coder" "B" (.int (0 : Int32))) (V_c : Arv Z h0 ca kc .char (2 : Int32) [(.int x0), (.int x1)] (.int (0 : Int32))) (hx0 : ¬ (255 : Int32) < x0) (hx1 : ¬ (255 : Int32) < x1) (cs : Int32) (S_cs : Sta Z h0 "java/lang/String" "COMPACT_STRINGS" "Z" (.int cs)) (hcs : ¬ cs = 0) :
    Pays l (⟨"java/lang/String", "<init>", "([C)V"⟩ : MethodName) jdk_42_method_3_code 2 none ({ frames := 3, cells := 1, slots := 2, locals := 52 } : Room) Z #[(.ref a), (.ref ca)] h0 (fun v h L => ∃ d k, v = none ∧ Fr n0 L ∧ Keep h0 h [a] ∧ h0.size ≤ d ∧ n0 ≤ d ∧ Exa Z h a "java/lang/String" ∧ Fld Z h a "java/lang/String" "value" "[B" (.ref d) ∧ Fld Z h a "java/lang/String" "coder" "B" (.int (0 : Int32)) ∧ Arv Z h d k .byte (2 : Int32) [(.int (nar .byte (x0).toInt8.toInt32)), (.int (nar .byte (x1).toInt8.toInt32))] (.int (0 : Int32))) := by
  refine Pays.of (plainFor_of_name pn_java_lang_String) ?_
  intro pP eE sS m below methM cC T hx hby hml hret hlk hZ hown hnm eT X
  replace hown : sS.vm.findClass "java/lang/String" = some m.cls := hown
  have N0 := Fr.nil n0
  have K0 := Keep.refl h0 [a]
  refine Go.cast (ef_rmK1_2 m a ca) ?_
  refine Go.st (S' := T.setTop (mkF m 1 #[.val (.ref a), .val (.ref ca)] [(.ref a)])) (fun t kt => XS.aloadN X.here hx rfl (hb hby dK1_2_0) rfl rfl kt) ?_
  refine Go.st (S' := T.setTop (mkF m 2 #[.val (.ref a), .val (.ref ca)] [(.ref ca), (.ref a)])) (fun t kt => XS.aloadN X.here hx rfl (hb hby dK1_2_1) rfl rfl kt) ?_
  refine Go.st (S' := T.setTop (mkF m 3 #[.val (.ref a), .val (.ref ca)] [(.int (0 : Int32)), (.ref ca), (.ref a)])) (fun t kt => XS.iconst X.here hx rfl (hb hby dK1_2_2) kt) ?_
  refine Go.st (S' := T.setTop (mkF m 4 #[.val (.ref a), .val (.ref ca)] [(.ref ca), (.int (0 : Int32)), (.ref ca), (.ref a)])) (fun t kt => XS.aloadN X.here hx rfl (hb hby dK1_2_3) rfl rfl kt) ?_
  obtain ⟨cl1, Ar1, q1, S1, M1, H1, G1⟩ := id V_c
  refine Go.st (S' := T.setTop (mkF m 5 #[.val (.ref a), .val (.ref ca)] [(.int (2 : Int32)), (.int (0 : Int32)), (.ref ca), (.ref a)])) (fun t kt => own_alen X hx hZ eT Ar1 (len_of S1 M1) rfl (hb hby dK1_2_4) t kt) ?_
  refine Go.st (S' := T.setTop (mkF m 6 #[.val (.ref a), .val (.ref ca)] [.null, (.int (2 : Int32)), (.int (0 : Int32)), (.ref ca), (.ref a)])) (fun t kt => XS.aconstNull X.here hx rfl (hb hby dK1_2_5) kt) ?_
  refine Go.init X hx hZ rfl hown (hw _ (List.mem_of_getElem? (i := 54) rfl)) (hw _ (List.mem_of_getElem? (i := 55) rfl)) (hw _ (List.mem_of_getElem? (i := 57) rfl)) (hw _ (List.mem_of_getElem? (i := 49) rfl)) (by decide) (b := a) (argsL := [(.ref ca), (.int (0 : Int32)), (.int (2 : Int32)), .null]) (rest := []) (rmK4_2 l Z a0 hw a ca kc x0 x1 h0 n0 Z0 E_a ha hca F_value F_coder V_c hx0 hx1 cs S_cs hcs) eT rfl (by rw [hml]; rfl) pd___CIILjava_lang_Void__V rfl (hb hby dK1_2_6) 0 (Nat.le_refl _) (by decide) (by decide) (by decide) (by decide) ?_
  intro v2 T2 L2 X2 hQ2
  obtain ⟨d2, k2, hv2, N2', K2', y2_0, u2_0, f2_0, f2_1, f2_2, f2_3⟩ := hQ2
  subst hv2
  have N2 := Fr.app N0 N2'
  have Z2 : n0 ≤ T2.heap.size := Nat.le_trans Z0 K2'.1
  have eh2 : T2.heap = T2.heap := rfl
  have sz_d2 : h0.size ≤ d2 := Nat.le_trans K0.1 y2_0
  have K2 := Keep.trans K0 K2' (allS (Or.inl (List.mem_of_getElem? (i := 0) rfl)) all0)
  show Go pP eE below _ (T2.setTop (mkF m 9 #[.val (.ref a), .val (.ref ca)] []))
  exact ret_v X2 hx hlk hret (hb hby dK1_2_9) (by decide) (by decide) (by rw [eh2]; exact ⟨_, _, rfl, N2, K2, sz_d2, u2_0, f2_0, f2_1, f2_2, f2_3⟩)
theorem dK4_0_0 : decode jdk_42_method_149_code 0 = .ok (.aload_n 0, 1) := by decide +kernel
theorem dK4_0_1 : decode jdk_42_method_149_code 1 = .ok (.invokespecial 1, 3) := by decide +kernel
theorem dK4_0_4 : decode jdk_42_method_149_code 4 = .ok (.iload_n 3, 1) := by decide +kernel
theorem dK4_0_5 : decode jdk_42_method_149_code 5 = .ok (.ifCond .ne 22, 3) := by decide +kernel
theorem dK4_0_8 : decode jdk_42_method_149_code 8 = .ok (.aload_n 0, 1) := by decide +kernel
theorem dK4_0_9 : decode jdk_42_method_149_code 9 = .ok (.ldc 7, 2) := by decide +kernel
theorem dK4_0_11 : decode jdk_42_method_149_code 11 = .ok (.getfield 9, 3) := by decide +kernel
theorem dK4_0_14 : decode jdk_42_method_149_code 14 = .ok (.putfield 9, 3) := by decide +kernel
theorem dK4_0_17 : decode jdk_42_method_149_code 17 = .ok (.aload_n 0, 1) := by decide +kernel
theorem dK4_0_18 : decode jdk_42_method_149_code 18 = .ok (.ldc 7, 2) := by decide +kernel
theorem dK4_0_20 : decode jdk_42_method_149_code 20 = .ok (.getfield 15, 3) := by decide +kernel
theorem dK4_0_23 : decode jdk_42_method_149_code 23 = .ok (.putfield 15, 3) := by decide +kernel
theorem dK4_0_26 : decode jdk_42_method_149_code 26 = .ok (.return_, 1) := by decide +kernel
theorem ef_rmK4_0 (m : MethodId) (a : Addr) (ca : Addr) : entryFrame m #[(.ref a), (.ref ca), (.int (0 : Int32)), (.int (0 : Int32)), .null] 6 = mkF m 0 #[.val (.ref a), .val (.ref ca), .val (.int (0 : Int32)), .val (.int (0 : Int32)), .val .null, .unset] [] := by first | exact own_entry rfl | (simp [entryFrame, mkF, argsToLocals, Value.category]; done) | rfl
set_option maxRecDepth 65536 in
set_option maxHeartbeats 40000000 in
theorem rmK4_0 (l : Launch) (Z : State) (a0 : Array Value) (hw : ∀ d ∈ tables_1, d.before a0 Z = true) (a ca : Addr) (kc : ClassId) (h0 : Heap) (n0 : Nat) (Z0 : n0 ≤ h0.size) (E_a : Exa Z h0 a "java/lang/String") (ha : n0 ≤ a) (hca : ca ≠ a) (F_value : Fld Z h0 a "java/lang/String" "value" "[B" .null) (F_coder : Fld Z h0 a "java/lang/String" "coder" "B" (.int (0 : Int32))) (V_c : Arv Z h0 ca kc .char (0 : Int32) [] (.int (0 : Int32))) :
    PaysW l (⟨"java/lang/String", "<init>", "([CIILjava/lang/Void;)V"⟩ : MethodName) jdk_42_method_149_code 6 none ({ frames := 1, cells := 2, slots := 4, locals := 12 } : Room) Z own_EL #[(.ref a), (.ref ca), (.int (0 : Int32)), (.int (0 : Int32)), .null] h0 (fun v h L => ∃ d k, v = none ∧ Fr n0 L ∧ Keep h0 h [a] ∧ Exa Z h a "java/lang/String" ∧ Fld Z h a "java/lang/String" "value" "[B" (.ref d) ∧ Fld Z h a "java/lang/String" "coder" "B" (.int (0 : Int32)) ∧ Arv Z h d k .byte (0 : Int32) [] (.int (0 : Int32))) := by
  refine PaysW.of (plainFor_of_name pn_java_lang_String) ?_
  intro pP eE sS m below methM cC T hx hby hml hret hlk hZ0 hown0 hnm eT X C0 hS
  replace hown0 : sS.vm.findClass "java/lang/String" = some m.cls := hown0
  have hown : (sS.setVm sS.vm).vm.findClass "java/lang/String" = some m.cls := hown0
  have hZ : Z.Warmed39 (sS.setVm sS.vm).vm := hZ0
  have hk : 0 ≤ h0.size := Nat.zero_le _
  have hEL := own_ew hw
  have N0 := Fr.nil n0
  have K0 := Keep.refl h0 [a]
  refine Go.cast (ef_rmK4_0 m a ca) ?_
  refine Go.st (S' := T.setTop (mkF m 1 #[.val (.ref a), .val (.ref ca), .val (.int (0 : Int32)), .val (.int (0 : Int32)), .val .null, .unset] [(.ref a)])) (fun t kt => XS.aloadN X.here hx rfl (hb hby dK4_0_0) rfl rfl kt) ?_
  obtain ⟨T1, X1, e1, st1⟩ := initO X hx hZ hown (hw _ (List.mem_of_getElem? (i := 58) rfl)) (hw _ (List.mem_of_getElem? (i := 25) rfl)) (hw _ (List.mem_of_getElem? (i := 26) rfl)) eT (g := (mkF m 1 #[.val (.ref a), .val (.ref ca), .val (.int (0 : Int32)), .val (.int (0 : Int32)), .val .null, .unset] [(.ref a)])) rfl (by rw [hml]; rfl) rfl (hb hby dK4_0_1) (by decide) (W := 0) (by show 2 * 0 + _ ≤ _; exact Nat.le_of_eq rfl) (by decide)
  refine Go.st (S' := T1.setTop (mkF m 4 #[.val (.ref a), .val (.ref ca), .val (.int (0 : Int32)), .val (.int (0 : Int32)), .val .null, .unset] [])) (fun t kt => st1 t kt) ?_
  refine Go.st (S' := T1.setTop (mkF m 5 #[.val (.ref a), .val (.ref ca), .val (.int (0 : Int32)), .val (.int (0 : Int32)), .val .null, .unset] [(.int (0 : Int32))])) (fun t kt => XS.iloadN X1.here hx rfl (hb hby dK4_0_4) rfl kt) ?_
  refine Go.st (S' := T1.setTop (mkF m 8 #[.val (.ref a), .val (.ref ca), .val (.int (0 : Int32)), .val (.int (0 : Int32)), .val .null, .unset] [])) (fun t kt => XS.ifNo X1.here hx rfl (hb hby dK4_0_5) rfl (XT.i0_ne_f (by decide)) kt) ?_
  refine Go.st (S' := T1.setTop (mkF m 9 #[.val (.ref a), .val (.ref ca), .val (.int (0 : Int32)), .val (.int (0 : Int32)), .val .null, .unset] [(.ref a)])) (fun t kt => XS.aloadN X1.here hx rfl (hb hby dK4_0_8) rfl rfl kt) ?_
  obtain ⟨a2, T2, h2, k2, b2, c2, X2, e2, E2, hS, hk, hZ, hown, fe2, fc2, fv2, fa2, -, -, A2, Lit2, ne2, st2⟩ := ldcCH X1 hx hZ hown (hw _ (List.mem_of_getElem? (i := 84) rfl)) (own_ws hw) e1 hS hk hEL (List.mem_of_getElem? (i := 0) rfl) C0.1 (vs := []) (z := (0 : Int32)) ⟨by decide, by decide⟩ (by decide) rfl (g := (mkF m 9 #[.val (.ref a), .val (.ref ca), .val (.int (0 : Int32)), .val (.int (0 : Int32)), .val .null, .unset] [(.ref a)])) rfl (hb hby dK4_0_9) (n := 0) (by decide) (by decide) (by decide) (by decide)
  have C2 := CHr.trans C0 A2
  have Z2 : n0 ≤ h2.size := Nat.le_trans Z0 E2.1
  have K2 := Keep.ext K0 E2
  have f3 := (CHr.safe A2 E_a.lt (own_safe_null (show Z.vm.Alike sS.vm from hZ0.alike) E_a F_value))
  have f4 := (V_c.ext E2)
  refine Go.st (S' := T2.setTop (mkF m 11 #[.val (.ref a), .val (.ref ca), .val (.int (0 : Int32)), .val (.int (0 : Int32)), .val .null, .unset] [(.ref a2), (.ref a)])) (fun t kt => st2 t kt) ?_
  obtain ⟨T5, X5, e5, st5⟩ := getF X2 hx hZ hown (host := "") (Or.inl (hw _ (List.mem_of_getElem? (i := 73) rfl))) Via.refl e2 fv2 (g := (mkF m 11 #[.val (.ref a), .val (.ref ca), .val (.int (0 : Int32)), .val (.int (0 : Int32)), .val .null, .unset] [(.ref a2), (.ref a)])) rfl rfl (hb hby dK4_0_11)
  refine Go.st (S' := T5.setTop (mkF m 14 #[.val (.ref a), .val (.ref ca), .val (.int (0 : Int32)), .val (.int (0 : Int32)), .val .null, .unset] [(.ref b2), (.ref a)])) (fun t kt => st5 t kt) ?_
  have f6 := (F_value.ext E2)
  have f7 := (E_a.ext E2)
  obtain ⟨T8, h8, X8, e8, W8, st8⟩ := putF X5 hx hZ hown (host := "") (Or.inl (hw _ (List.mem_of_getElem? (i := 73) rfl))) Via.refl e5 f6 f7 (Or.inr ⟨(hw _ (List.mem_of_getElem? (i := 74) rfl)), rfl, hnm⟩) (hw _ (List.mem_of_getElem? (i := 48) rfl)) (ty := (.array .byte)) (by decide) rfl rfl (g := (mkF m 14 #[.val (.ref a), .val (.ref ca), .val (.int (0 : Int32)), .val (.int (0 : Int32)), .val .null, .unset] [(.ref b2), (.ref a)])) rfl rfl (hb hby dK4_0_14)
  have F8 := Fld.same W8 f6
  have N8 := Fr.snoc X8 N0 ha
  have C8 := CHr.trans C2 (CHr.wr W8 f3 C2.1)
  have hk := Nat.le_trans hk (Nat.le_of_eq (Wr.size W8).symm)
  have Z8 : n0 ≤ h8.size := by rw [Wr.size W8]; exact Z2
  have K8 := Keep.wr K2 W8 (Or.inl (List.mem_of_getElem? (i := 0) rfl))
  refine Go.st (S' := T8.setTop (mkF m 17 #[.val (.ref a), .val (.ref ca), .val (.int (0 : Int32)), .val (.int (0 : Int32)), .val .null, .unset] [])) (fun t kt => st8 t kt) ?_
  refine Go.st (S' := T8.setTop (mkF m 18 #[.val (.ref a), .val (.ref ca), .val (.int (0 : Int32)), .val (.int (0 : Int32)), .val .null, .unset] [(.ref a)])) (fun t kt => XS.aloadN X8.here hx rfl (hb hby dK4_0_17) rfl rfl kt) ?_
  refine Go.st (S' := T8.setTop (mkF m 20 #[.val (.ref a), .val (.ref ca), .val (.int (0 : Int32)), .val (.int (0 : Int32)), .val .null, .unset] [(.ref a2), (.ref a)])) (fun t kt => ldcAgain X8 hx hZ hown (hw _ (List.mem_of_getElem? (i := 84) rfl)) Lit2 (g := (mkF m 18 #[.val (.ref a), .val (.ref ca), .val (.int (0 : Int32)), .val (.int (0 : Int32)), .val .null, .unset] [(.ref a)])) rfl (hb hby dK4_0_18) t kt) ?_
  have f9 := (Fld.other W8 fc2 (Or.inl (Ne.symm ((ne2 _ f3).1))))
  obtain ⟨T10, X10, e10, st10⟩ := getF X8 hx hZ hown (host := "") (Or.inl (hw _ (List.mem_of_getElem? (i := 71) rfl))) Via.refl e8 f9 (g := (mkF m 20 #[.val (.ref a), .val (.ref ca), .val (.int (0 : Int32)), .val (.int (0 : Int32)), .val .null, .unset] [(.ref a2), (.ref a)])) rfl rfl (hb hby dK4_0_20)
  refine Go.st (S' := T10.setTop (mkF m 23 #[.val (.ref a), .val (.ref ca), .val (.int (0 : Int32)), .val (.int (0 : Int32)), .val .null, .unset] [(.int (0 : Int32)), (.ref a)])) (fun t kt => st10 t kt) ?_
  have f11 := (Fld.other W8 (F_coder.ext E2) (Or.inr (slot_ne (Or.inr (hw _ (List.mem_of_getElem? (i := 72) rfl))) (Or.inr (hw _ (List.mem_of_getElem? (i := 74) rfl))) (by decide) (t := .byte) (t' := (.array .byte)) (by decide) (by decide))))
  have f12 := (Exa.wr W8 f7)
  obtain ⟨T13, h13, X13, e13, W13, st13⟩ := putF X10 hx hZ hown (host := "") (Or.inl (hw _ (List.mem_of_getElem? (i := 71) rfl))) Via.refl e10 f11 f12 (Or.inr ⟨(hw _ (List.mem_of_getElem? (i := 72) rfl)), rfl, hnm⟩) (hw _ (List.mem_of_getElem? (i := 48) rfl)) (ty := .byte) (by decide) rfl rfl (g := (mkF m 23 #[.val (.ref a), .val (.ref ca), .val (.int (0 : Int32)), .val (.int (0 : Int32)), .val .null, .unset] [(.int (0 : Int32)), (.ref a)])) rfl rfl (hb hby dK4_0_23)
  have F13 := Fld.same W13 f11
  have N13 := Fr.snoc X13 N8 ha
  have f14 := (Safe.wr W8 f3 C2.1 f3)
  have C13 := CHr.trans C8 (CHr.wr W13 f14 C8.1)
  have hk := Nat.le_trans hk (Nat.le_of_eq (Wr.size W13).symm)
  have Z13 : n0 ≤ h13.size := by rw [Wr.size W13]; exact Z8
  have K13 := Keep.wr K8 W13 (Or.inl (List.mem_of_getElem? (i := 0) rfl))
  refine Go.st (S' := T13.setTop (mkF m 26 #[.val (.ref a), .val (.ref ca), .val (.int (0 : Int32)), .val (.int (0 : Int32)), .val .null, .unset] [])) (fun t kt => st13 t kt) ?_
  have f15 := (Exa.wr W13 f12)
  have f16 := (Fld.other W13 F8 (Or.inr (slot_ne (Or.inr (hw _ (List.mem_of_getElem? (i := 74) rfl))) (Or.inr (hw _ (List.mem_of_getElem? (i := 72) rfl))) (by decide) (t := (.array .byte)) (t' := .byte) (by decide) (by decide))))
  have f17 := ((fa2.other W8 (Ne.symm ((ne2 _ f3).2))).other W13 (Ne.symm ((ne2 _ f3).2)))
  exact retw_v X13 hZ hEL e13 C13 hS hk hx hlk hret (hb hby dK4_0_26) (by decide) (by decide) (by rw [e13]; exact ⟨_, _, rfl, N13, K13, f15, f16, F13, f17⟩)
theorem dK1_0_0 : decode jdk_42_method_3_code 0 = .ok (.aload_n 0, 1) := by decide +kernel
theorem dK1_0_1 : decode jdk_42_method_3_code 1 = .ok (.aload_n 1, 1) := by decide +kernel
theorem dK1_0_2 : decode jdk_42_method_3_code 2 = .ok (.iconst 0, 1) := by decide +kernel
theorem dK1_0_3 : decode jdk_42_method_3_code 3 = .ok (.aload_n 1, 1) := by decide +kernel
theorem dK1_0_4 : decode jdk_42_method_3_code 4 = .ok (.arraylength, 1) := by decide +kernel
theorem dK1_0_5 : decode jdk_42_method_3_code 5 = .ok (.aconst_null, 1) := by decide +kernel
theorem dK1_0_6 : decode jdk_42_method_3_code 6 = .ok (.invokespecial 27, 3) := by decide +kernel
theorem dK1_0_9 : decode jdk_42_method_3_code 9 = .ok (.return_, 1) := by decide +kernel
theorem ef_rmK1_0 (m : MethodId) (a : Addr) (ca : Addr) : entryFrame m #[(.ref a), (.ref ca)] 2 = mkF m 0 #[.val (.ref a), .val (.ref ca)] [] := by first | exact own_entry rfl | (simp [entryFrame, mkF, argsToLocals, Value.category]; done) | rfl
set_option maxRecDepth 65536 in
set_option maxHeartbeats 40000000 in
theorem rmK1_0 (l : Launch) (Z : State) (a0 : Array Value) (hw : ∀ d ∈ tables_1, d.before a0 Z = true) (a ca : Addr) (kc : ClassId) (h0 : Heap) (n0 : Nat) (Z0 : n0 ≤ h0.size) (E_a : Exa Z h0 a "java/lang/String") (ha : n0 ≤ a) (hca : ca ≠ a) (F_value : Fld Z h0 a "java/lang/String" "value" "[B" .null) (F_coder : Fld Z h0 a "java/lang/String" "coder" "B" (.int (0 : Int32))) (V_c : Arv Z h0 ca kc .char (0 : Int32) [] (.int (0 : Int32))) :
    PaysW l (⟨"java/lang/String", "<init>", "([C)V"⟩ : MethodName) jdk_42_method_3_code 2 none ({ frames := 2, cells := 2, slots := 4, locals := 29 } : Room) Z own_EL #[(.ref a), (.ref ca)] h0 (fun v h L => ∃ d k, v = none ∧ Fr n0 L ∧ Keep h0 h [a] ∧ Exa Z h a "java/lang/String" ∧ Fld Z h a "java/lang/String" "value" "[B" (.ref d) ∧ Fld Z h a "java/lang/String" "coder" "B" (.int (0 : Int32)) ∧ Arv Z h d k .byte (0 : Int32) [] (.int (0 : Int32))) := by
  refine PaysW.of (plainFor_of_name pn_java_lang_String) ?_
  intro pP eE sS m below methM cC T hx hby hml hret hlk hZ0 hown0 hnm eT X C0 hS
  replace hown0 : sS.vm.findClass "java/lang/String" = some m.cls := hown0
  have hown : (sS.setVm sS.vm).vm.findClass "java/lang/String" = some m.cls := hown0
  have hZ : Z.Warmed39 (sS.setVm sS.vm).vm := hZ0
  have hk : 0 ≤ h0.size := Nat.zero_le _
  have hEL := own_ew hw
  have N0 := Fr.nil n0
  have K0 := Keep.refl h0 [a]
  refine Go.cast (ef_rmK1_0 m a ca) ?_
  refine Go.st (S' := T.setTop (mkF m 1 #[.val (.ref a), .val (.ref ca)] [(.ref a)])) (fun t kt => XS.aloadN X.here hx rfl (hb hby dK1_0_0) rfl rfl kt) ?_
  refine Go.st (S' := T.setTop (mkF m 2 #[.val (.ref a), .val (.ref ca)] [(.ref ca), (.ref a)])) (fun t kt => XS.aloadN X.here hx rfl (hb hby dK1_0_1) rfl rfl kt) ?_
  refine Go.st (S' := T.setTop (mkF m 3 #[.val (.ref a), .val (.ref ca)] [(.int (0 : Int32)), (.ref ca), (.ref a)])) (fun t kt => XS.iconst X.here hx rfl (hb hby dK1_0_2) kt) ?_
  refine Go.st (S' := T.setTop (mkF m 4 #[.val (.ref a), .val (.ref ca)] [(.ref ca), (.int (0 : Int32)), (.ref ca), (.ref a)])) (fun t kt => XS.aloadN X.here hx rfl (hb hby dK1_0_3) rfl rfl kt) ?_
  obtain ⟨cl1, Ar1, q1, S1, M1, H1, G1⟩ := id V_c
  refine Go.st (S' := T.setTop (mkF m 5 #[.val (.ref a), .val (.ref ca)] [(.int (0 : Int32)), (.int (0 : Int32)), (.ref ca), (.ref a)])) (fun t kt => own_alen X hx hZ eT Ar1 (len_of S1 M1) rfl (hb hby dK1_0_4) t kt) ?_
  refine Go.st (S' := T.setTop (mkF m 6 #[.val (.ref a), .val (.ref ca)] [.null, (.int (0 : Int32)), (.int (0 : Int32)), (.ref ca), (.ref a)])) (fun t kt => XS.aconstNull X.here hx rfl (hb hby dK1_0_5) kt) ?_
  refine Go.initW X hx hZ hEL C0.1 hS hk rfl hown (hw _ (List.mem_of_getElem? (i := 54) rfl)) (hw _ (List.mem_of_getElem? (i := 55) rfl)) (hw _ (List.mem_of_getElem? (i := 57) rfl)) (hw _ (List.mem_of_getElem? (i := 49) rfl)) (by decide) (b := a) (argsL := [(.ref ca), (.int (0 : Int32)), (.int (0 : Int32)), .null]) (rest := []) (rmK4_0 l Z a0 hw a ca kc h0 n0 Z0 E_a ha hca F_value F_coder V_c) eT rfl (by rw [hml]; rfl) pd___CIILjava_lang_Void__V rfl (hb hby dK1_0_6) 0 (Nat.le_refl _) (by decide) (by decide) (by decide) (by decide) ?_
  intro v2 T2 L2 X2 hQ2 A2 hS
  have hk : T2.heap.size ≤ T2.heap.size := Nat.le_refl _
  have hZ := own_hZ hZ0 hS
  have hown := own_hown hown0 hS
  obtain ⟨d2, k2, hv2, N2', K2', f2_0, f2_1, f2_2, f2_3⟩ := hQ2
  subst hv2
  have N2 := Fr.app N0 N2'
  have Z2 : n0 ≤ T2.heap.size := Nat.le_trans Z0 K2'.1
  have eh2 : T2.heap = T2.heap := rfl
  have C2 := CHr.trans C0 A2
  have K2 := Keep.trans K0 K2' (allS (Or.inl (List.mem_of_getElem? (i := 0) rfl)) all0)
  show Go pP eE below _ (T2.setTop (mkF m 9 #[.val (.ref a), .val (.ref ca)] []))
  exact retw_v X2 hZ hEL eh2 C2 hS hk hx hlk hret (hb hby dK1_0_9) (by decide) (by decide) (by rw [eh2]; exact ⟨_, _, rfl, N2, K2, f2_0, f2_1, f2_2, f2_3⟩)
def own_lo (c : Int32) : Prop := ∃ x : Int32, c = x &&& (255 : Int32)
def own_by (c : Int32) : Int32 := nar .byte (nar .char (c).toUInt32.toUInt16.toUInt32.toInt32).toInt8.toInt32
theorem own_lo_char {c : Int32} (h : own_lo c) : nar .char (c).toUInt32.toUInt16.toUInt32.toInt32 = c := by
  obtain ⟨x, rfl⟩ := h
  rw [i2c_mask]
  exact i2c_mask x
theorem own_lo_bd {c : Int32} (h : own_lo c) : 0 ≤ c.toInt ∧ c.toInt ≤ 255 := by
  obtain ⟨x, rfl⟩ := h
  have h := c_and x (255 : Int32) (by decide)
  have : (255 : Int32).toInt = 255 := rfl
  omega
theorem own_char {c : Int32} (h : own_lo c) : ¬ (255 : Int32) < (nar .char (c).toUInt32.toUInt16.toUInt32.toInt32) := by
  rw [own_lo_char h]
  have h := own_lo_bd h
  rw [Int32.lt_iff_toInt_lt]
  have : (255 : Int32).toInt = 255 := rfl
  omega
theorem own_by_inj {c e : Int32} (hc : own_lo c) (he : own_lo e) (h : own_by c = own_by e) : c = e := by
  unfold own_by at h
  rw [own_lo_char hc, own_lo_char he] at h
  have q : ∀ x : Int32, (nar .byte x.toInt8.toInt32).toInt = x.toInt.bmod (2 ^ 8) := by
    intro x
    show (x.toInt8.toInt32).toInt8.toInt32.toInt = _
    rw [Int8.toInt_toInt32, Int8.toInt8_toInt32, Int32.toInt_toInt8]
  have h1 := congrArg Int32.toInt h
  rw [q, q, Int.bmod_def, Int.bmod_def] at h1
  have b1 := own_lo_bd hc
  have b2 := own_lo_bd he
  refine Int32.toInt_inj.mp ?_
  split at h1 <;> split at h1 <;> omega
def own_co (m c0 c1 : Int32) : Option (List Int32) := if m = 0 then none else if m = 1 then some [] else if m = 2 then some [own_by c0] else some [own_by c0, own_by c1]
def own_cov (m x0 x1 n y0 y1 : Int32) : Int32 := if m = 0 then 1 else if n = 0 then 0 else if m = n then (if m < 2 then (if m = 3 then (if x1 = y1 then 1 else 0) else 1) else if x0 = y0 then (if m = 3 then (if x1 = y1 then 1 else 0) else 1) else 0) else 0
def own_adm (o1 o2 o3 o4 : Option (List Int32)) : Int32 := if o1 = none ∨ o1 = o3 then (if o2 = none ∨ o2 = o4 then 1 else 0) else 0
theorem own_mask4 (x : Int32) : x &&& (3 : Int32) = (0 : Int32) ∨ x &&& (3 : Int32) = (1 : Int32) ∨ x &&& (3 : Int32) = (2 : Int32) ∨ x &&& (3 : Int32) = (3 : Int32) := by
  have h := c_and x (3 : Int32) (by decide)
  generalize x &&& (3 : Int32) = z at h
  have h3 : (3 : Int32).toInt = 3 := rfl
  have e : z.toInt = 0 ∨ z.toInt = 1 ∨ z.toInt = 2 ∨ z.toInt = 3 := by omega
  have k : ∀ w : Int32, z.toInt = w.toInt → z = w := fun w h => Int32.toInt_inj.mp h
  rcases e with e | e | e | e
  · exact Or.inl (k 0 e)
  · exact Or.inr (Or.inl (k 1 e))
  · exact Or.inr (Or.inr (Or.inl (k 2 e)))
  · exact Or.inr (Or.inr (Or.inr (k 3 e)))
theorem own_cov_one {m x0 x1 n y0 y1 : Int32} (hm : m = 0 ∨ m = 1 ∨ m = 2 ∨ m = 3) (hn : n = 0 ∨ n = 1 ∨ n = 2 ∨ n = 3) (h0 : own_lo x0) (h1 : own_lo x1) (g0 : own_lo y0) (g1 : own_lo y1) : own_cov m x0 x1 n y0 y1 = if (own_co m x0 x1 = none ∨ own_co m x0 x1 = own_co n y0 y1) then 1 else 0 := by
  have e0 : own_by x0 = own_by y0 ↔ x0 = y0 := ⟨own_by_inj h0 g0, fun h => by rw [h]⟩
  have e1 : own_by x1 = own_by y1 ↔ x1 = y1 := ⟨own_by_inj h1 g1, fun h => by rw [h]⟩
  by_cases q0 : x0 = y0 <;> by_cases q1 : x1 = y1 <;> rcases hm with rfl | rfl | rfl | rfl <;> rcases hn with rfl | rfl | rfl | rfl <;> simp [own_cov, own_co, e0, e1, q0, q1]
theorem own_fin {a1 a2 a3 a4 a5 a6 b1 b2 b3 b4 b5 b6 : Int32} (hm : a1 = 0 ∨ a1 = 1 ∨ a1 = 2 ∨ a1 = 3) (hn : a4 = 0 ∨ a4 = 1 ∨ a4 = 2 ∨ a4 = 3) (hm' : b1 = 0 ∨ b1 = 1 ∨ b1 = 2 ∨ b1 = 3) (hn' : b4 = 0 ∨ b4 = 1 ∨ b4 = 2 ∨ b4 = 3)
    (h2 : own_lo a2) (h3 : own_lo a3) (h5 : own_lo a5) (h6 : own_lo a6) (g2 : own_lo b2) (g3 : own_lo b3) (g5 : own_lo b5) (g6 : own_lo b6) :
    own_adm (own_co a1 a2 a3) (own_co b1 b2 b3) (own_co a4 a5 a6) (own_co b4 b5 b6) = if own_cov a1 a2 a3 a4 a5 a6 = 0 then 0 else if own_cov b1 b2 b3 b4 b5 b6 = 0 then 0 else 1 := by
  rw [own_cov_one hm hn h2 h3 h5 h6, own_cov_one hm' hn' g2 g3 g5 g6]
  unfold own_adm
  by_cases q : (own_co a1 a2 a3 = none ∨ own_co a1 a2 a3 = own_co a4 a5 a6) <;> by_cases r : (own_co b1 b2 b3 = none ∨ own_co b1 b2 b3 = own_co b4 b5 b6) <;> simp [q, r]
theorem dPK_0 : decode method_3_code 0 = .ok (.iload_n 0, 1) := by decide +kernel
theorem dPK_1 : decode method_3_code 1 = .ok (.sipush 256, 3) := by decide +kernel
theorem dPK_4 : decode method_3_code 4 = .ok (.iand, 1) := by decide +kernel
theorem dPK_5 : decode method_3_code 5 = .ok (.ifCond .eq 7, 3) := by decide +kernel
theorem dPK_8 : decode method_3_code 8 = .ok (.iload_n 1, 1) := by decide +kernel
theorem dPK_9 : decode method_3_code 9 = .ok (.goto 8, 3) := by decide +kernel
theorem dPK_12 : decode method_3_code 12 = .ok (.iload_n 0, 1) := by decide +kernel
theorem dPK_13 : decode method_3_code 13 = .ok (.sipush 255, 3) := by decide +kernel
theorem dPK_16 : decode method_3_code 16 = .ok (.iand, 1) := by decide +kernel
theorem dPK_17 : decode method_3_code 17 = .ok (.ireturn, 1) := by decide +kernel
theorem pn_com_example_sunder_sunder_query_StepAdmitsEveryPinLaw : plainName "com/example/sunder/sunder/query/StepAdmitsEveryPinLaw" = true := by first | (simp [plainName, overriddenIn]; done) | decide +kernel
theorem ef_rmPK (m : MethodId) (b : Int32) (m_ : Int32) : entryFrame m #[(.int b), (.int m_)] 2 = mkF m 0 #[.val (.int b), .val (.int m_)] [] := by first | exact own_entry rfl | (simp [entryFrame, mkF, argsToLocals, Value.category]; done) | rfl
set_option maxRecDepth 65536 in
set_option maxHeartbeats 40000000 in
theorem rmPK (l : Launch) (Z : State) (a0 : Array Value) (hw : ∀ d ∈ tables_1, d.before a0 Z = true) (b m_ : Int32) (h0 : Heap) (n0 : Nat) (Z0 : n0 ≤ h0.size) (hlo : own_lo m_) :
    Pays l (⟨"com/example/sunder/sunder/query/StepAdmitsEveryPinLaw", "pick", "(II)I"⟩ : MethodName) method_3_code 2 (some .int) ({ frames := 0, cells := 0, slots := 0, locals := 0 } : Room) Z #[(.int b), (.int m_)] h0 (fun v h L => ∃ r, v = some (.int r) ∧ Fr n0 L ∧ h = h0 ∧ own_lo r) := by
  refine Pays.of (plainFor_of_name pn_com_example_sunder_sunder_query_StepAdmitsEveryPinLaw) ?_
  intro pP eE sS m below methM cC T hx hby hml hret hlk hZ hown hnm eT X
  replace hown : sS.vm.findClass "com/example/sunder/sunder/query/StepAdmitsEveryPinLaw" = some m.cls := hown
  have N0 := Fr.nil n0
  refine Go.cast (ef_rmPK m b m_) ?_
  refine Go.st (S' := T.setTop (mkF m 1 #[.val (.int b), .val (.int m_)] [(.int b)])) (fun t kt => XS.iloadN X.here hx rfl (hb hby dPK_0) rfl kt) ?_
  refine Go.st (S' := T.setTop (mkF m 4 #[.val (.int b), .val (.int m_)] [(.int (256 : Int32)), (.int b)])) (fun t kt => XT.sipushV X.here hx rfl (256 : Int32) (hb hby dPK_1) (by decide) kt) ?_
  refine Go.st (S' := T.setTop (mkF m 5 #[.val (.int b), .val (.int m_)] [(.int (b &&& (256 : Int32)))])) (fun t kt => XS.iand X.here hx rfl (hb hby dPK_4) rfl kt) ?_
  by_cases hc5_1 : (b &&& (256 : Int32)) = 0
  · refine Go.st (S' := T.setTop (mkF m 12 #[.val (.int b), .val (.int m_)] [])) (fun t kt => XS.ifYes X.here hx rfl (pc0 := 5) (pc' := 12) rfl (hb hby dPK_5) rfl (XT.i0_eq_t hc5_1) (by decide) (by decide) kt) ?_
    refine Go.st (S' := T.setTop (mkF m 13 #[.val (.int b), .val (.int m_)] [(.int b)])) (fun t kt => XS.iloadN X.here hx rfl (hb hby dPK_12) rfl kt) ?_
    refine Go.st (S' := T.setTop (mkF m 16 #[.val (.int b), .val (.int m_)] [(.int (255 : Int32)), (.int b)])) (fun t kt => XT.sipushV X.here hx rfl (255 : Int32) (hb hby dPK_13) (by decide) kt) ?_
    refine Go.st (S' := T.setTop (mkF m 17 #[.val (.int b), .val (.int m_)] [(.int (b &&& (255 : Int32)))])) (fun t kt => XS.iand X.here hx rfl (hb hby dPK_16) rfl kt) ?_
    exact ret_i X hx hlk hret (hb hby dPK_17) (by decide) (by decide) (⟨_, rfl, N0, eT, ⟨_, rfl⟩⟩)
  · refine Go.st (S' := T.setTop (mkF m 8 #[.val (.int b), .val (.int m_)] [])) (fun t kt => XS.ifNo X.here hx rfl (hb hby dPK_5) rfl (XT.i0_eq_f hc5_1) kt) ?_
    refine Go.st (S' := T.setTop (mkF m 9 #[.val (.int b), .val (.int m_)] [(.int m_)])) (fun t kt => XS.iloadN X.here hx rfl (hb hby dPK_8) rfl kt) ?_
    refine Go.st (S' := T.setTop (mkF m 17 #[.val (.int b), .val (.int m_)] [(.int m_)])) (fun t kt => XS.goto X.here hx rfl (pc0 := 9) (pc' := 17) rfl (hb hby dPK_9) (by decide) (by decide) kt) ?_
    exact ret_i X hx hlk hret (hb hby dPK_17) (by decide) (by decide) (⟨_, rfl, N0, eT, hlo⟩)
theorem dKN_0 : decode method_6_code 0 = .ok (.iload_n 0, 1) := by decide +kernel
theorem dKN_1 : decode method_6_code 1 = .ok (.iconst 3, 1) := by decide +kernel
theorem dKN_2 : decode method_6_code 2 = .ok (.iand, 1) := by decide +kernel
theorem dKN_3 : decode method_6_code 3 = .ok (.istore_n 1, 1) := by decide +kernel
theorem dKN_4 : decode method_6_code 4 = .ok (.iload_n 1, 1) := by decide +kernel
theorem dKN_5 : decode method_6_code 5 = .ok (.ifCond .ne 7, 3) := by decide +kernel
theorem dKN_8 : decode method_6_code 8 = .ok (.getstatic 39, 3) := by decide +kernel
theorem dKN_11 : decode method_6_code 11 = .ok (.areturn, 1) := by decide +kernel
theorem dKN_12 : decode method_6_code 12 = .ok (.iload_n 1, 1) := by decide +kernel
theorem dKN_13 : decode method_6_code 13 = .ok (.iconst 1, 1) := by decide +kernel
theorem dKN_14 : decode method_6_code 14 = .ok (.if_icmp .ne 7, 3) := by decide +kernel
theorem dKN_17 : decode method_6_code 17 = .ok (.getstatic 45, 3) := by decide +kernel
theorem dKN_20 : decode method_6_code 20 = .ok (.areturn, 1) := by decide +kernel
theorem dKN_21 : decode method_6_code 21 = .ok (.iload_n 1, 1) := by decide +kernel
theorem dKN_22 : decode method_6_code 22 = .ok (.iconst 2, 1) := by decide +kernel
theorem dKN_23 : decode method_6_code 23 = .ok (.if_icmp .ne 7, 3) := by decide +kernel
theorem dKN_26 : decode method_6_code 26 = .ok (.getstatic 48, 3) := by decide +kernel
theorem dKN_29 : decode method_6_code 29 = .ok (.areturn, 1) := by decide +kernel
theorem dKN_30 : decode method_6_code 30 = .ok (.getstatic 51, 3) := by decide +kernel
theorem dKN_33 : decode method_6_code 33 = .ok (.areturn, 1) := by decide +kernel
theorem ef_rmKN (m : MethodId) (b : Int32) : entryFrame m #[(.int b)] 2 = mkF m 0 #[.val (.int b), .unset] [] := by first | exact own_entry rfl | (simp [entryFrame, mkF, argsToLocals, Value.category]; done) | rfl
set_option maxRecDepth 65536 in
set_option maxHeartbeats 40000000 in
theorem rmKN (l : Launch) (Z : State) (a0 : Array Value) (hw : ∀ d ∈ tables_1, d.before a0 Z = true) (b : Int32) (h0 : Heap) (n0 : Nat) (Z0 : n0 ≤ h0.size) (k_ELEMENT : Addr) (k_ATTRIBUTE : Addr) (k_TEXT : Addr) (k_SELF : Addr) (S_ELEMENT : Sta Z h0 "com/example/sunder/sunder/query/Step$Kind" "ELEMENT" "Lcom/example/sunder/sunder/query/Step$Kind;" (.ref k_ELEMENT)) (S_ATTRIBUTE : Sta Z h0 "com/example/sunder/sunder/query/Step$Kind" "ATTRIBUTE" "Lcom/example/sunder/sunder/query/Step$Kind;" (.ref k_ATTRIBUTE)) (S_TEXT : Sta Z h0 "com/example/sunder/sunder/query/Step$Kind" "TEXT" "Lcom/example/sunder/sunder/query/Step$Kind;" (.ref k_TEXT)) (S_SELF : Sta Z h0 "com/example/sunder/sunder/query/Step$Kind" "SELF" "Lcom/example/sunder/sunder/query/Step$Kind;" (.ref k_SELF)) :
    Pays l (⟨"com/example/sunder/sunder/query/StepAdmitsEveryPinLaw", "kind", "(I)Lcom/example/sunder/sunder/query/Step$Kind;"⟩ : MethodName) method_6_code 2 (some (.object "com/example/sunder/sunder/query/Step$Kind")) ({ frames := 0, cells := 0, slots := 0, locals := 0 } : Room) Z #[(.int b)] h0 (fun v h L => ∃ u : Value, v = some u ∧ Fr n0 L ∧ h = h0 ∧ u.isRef = true) := by
  refine Pays.of (plainFor_of_name pn_com_example_sunder_sunder_query_StepAdmitsEveryPinLaw) ?_
  intro pP eE sS m below methM cC T hx hby hml hret hlk hZ hown hnm eT X
  replace hown : sS.vm.findClass "com/example/sunder/sunder/query/StepAdmitsEveryPinLaw" = some m.cls := hown
  have N0 := Fr.nil n0
  refine Go.cast (ef_rmKN m b) ?_
  refine Go.st (S' := T.setTop (mkF m 1 #[.val (.int b), .unset] [(.int b)])) (fun t kt => XS.iloadN X.here hx rfl (hb hby dKN_0) rfl kt) ?_
  refine Go.st (S' := T.setTop (mkF m 2 #[.val (.int b), .unset] [(.int (3 : Int32)), (.int b)])) (fun t kt => XS.iconst X.here hx rfl (hb hby dKN_1) kt) ?_
  refine Go.st (S' := T.setTop (mkF m 3 #[.val (.int b), .unset] [(.int (b &&& (3 : Int32)))])) (fun t kt => XS.iand X.here hx rfl (hb hby dKN_2) rfl kt) ?_
  refine Go.st (S' := T.setTop (mkF m 4 #[.val (.int b), .val (.int (b &&& (3 : Int32)))] [])) (fun t kt => XS.istoreN X.here hx rfl (hb hby dKN_3) rfl rfl kt) ?_
  refine Go.st (S' := T.setTop (mkF m 5 #[.val (.int b), .val (.int (b &&& (3 : Int32)))] [(.int (b &&& (3 : Int32)))])) (fun t kt => XS.iloadN X.here hx rfl (hb hby dKN_4) rfl kt) ?_
  by_cases hc5_1 : (b &&& (3 : Int32)) = 0
  · refine Go.st (S' := T.setTop (mkF m 8 #[.val (.int b), .val (.int (b &&& (3 : Int32)))] [])) (fun t kt => XS.ifNo X.here hx rfl (hb hby dKN_5) rfl (XT.i0_ne_f hc5_1) kt) ?_
    obtain ⟨T2, X2, e2, st2⟩ := getS X hx hZ (host := "") hown (hw _ (List.mem_of_getElem? (i := 10) rfl)) Via.refl eT S_ELEMENT (g := (mkF m 8 #[.val (.int b), .val (.int (b &&& (3 : Int32)))] [])) rfl (hb hby dKN_8)
    refine Go.st (S' := T2.setTop (mkF m 11 #[.val (.int b), .val (.int (b &&& (3 : Int32)))] [(.ref k_ELEMENT)])) (fun t kt => st2 t kt) ?_
    exact ret_a X2 hx hlk hret rfl rfl (hb hby dKN_11) (by decide) (by decide) (⟨_, rfl, N0, e2, rfl⟩)
  · refine Go.st (S' := T.setTop (mkF m 12 #[.val (.int b), .val (.int (b &&& (3 : Int32)))] [])) (fun t kt => XS.ifYes X.here hx rfl (pc0 := 5) (pc' := 12) rfl (hb hby dKN_5) rfl (XT.i0_ne_t hc5_1) (by decide) (by decide) kt) ?_
    refine Go.st (S' := T.setTop (mkF m 13 #[.val (.int b), .val (.int (b &&& (3 : Int32)))] [(.int (b &&& (3 : Int32)))])) (fun t kt => XS.iloadN X.here hx rfl (hb hby dKN_12) rfl kt) ?_
    refine Go.st (S' := T.setTop (mkF m 14 #[.val (.int b), .val (.int (b &&& (3 : Int32)))] [(.int (1 : Int32)), (.int (b &&& (3 : Int32)))])) (fun t kt => XS.iconst X.here hx rfl (hb hby dKN_13) kt) ?_
    by_cases hc14_3 : (b &&& (3 : Int32)) = (1 : Int32)
    · refine Go.st (S' := T.setTop (mkF m 17 #[.val (.int b), .val (.int (b &&& (3 : Int32)))] [])) (fun t kt => XS.icmpNo X.here hx rfl (hb hby dKN_14) rfl (XT.ii_ne_f hc14_3) kt) ?_
      obtain ⟨T4, X4, e4, st4⟩ := getS X hx hZ (host := "") hown (hw _ (List.mem_of_getElem? (i := 75) rfl)) Via.refl eT S_ATTRIBUTE (g := (mkF m 17 #[.val (.int b), .val (.int (b &&& (3 : Int32)))] [])) rfl (hb hby dKN_17)
      refine Go.st (S' := T4.setTop (mkF m 20 #[.val (.int b), .val (.int (b &&& (3 : Int32)))] [(.ref k_ATTRIBUTE)])) (fun t kt => st4 t kt) ?_
      exact ret_a X4 hx hlk hret rfl rfl (hb hby dKN_20) (by decide) (by decide) (⟨_, rfl, N0, e4, rfl⟩)
    · refine Go.st (S' := T.setTop (mkF m 21 #[.val (.int b), .val (.int (b &&& (3 : Int32)))] [])) (fun t kt => XS.icmpYes X.here hx rfl (pc0 := 14) (pc' := 21) rfl (hb hby dKN_14) rfl (XT.ii_ne_t hc14_3) (by decide) (by decide) kt) ?_
      refine Go.st (S' := T.setTop (mkF m 22 #[.val (.int b), .val (.int (b &&& (3 : Int32)))] [(.int (b &&& (3 : Int32)))])) (fun t kt => XS.iloadN X.here hx rfl (hb hby dKN_21) rfl kt) ?_
      refine Go.st (S' := T.setTop (mkF m 23 #[.val (.int b), .val (.int (b &&& (3 : Int32)))] [(.int (2 : Int32)), (.int (b &&& (3 : Int32)))])) (fun t kt => XS.iconst X.here hx rfl (hb hby dKN_22) kt) ?_
      by_cases hc23_5 : (b &&& (3 : Int32)) = (2 : Int32)
      · refine Go.st (S' := T.setTop (mkF m 26 #[.val (.int b), .val (.int (b &&& (3 : Int32)))] [])) (fun t kt => XS.icmpNo X.here hx rfl (hb hby dKN_23) rfl (XT.ii_ne_f hc23_5) kt) ?_
        obtain ⟨T6, X6, e6, st6⟩ := getS X hx hZ (host := "") hown (hw _ (List.mem_of_getElem? (i := 82) rfl)) Via.refl eT S_TEXT (g := (mkF m 26 #[.val (.int b), .val (.int (b &&& (3 : Int32)))] [])) rfl (hb hby dKN_26)
        refine Go.st (S' := T6.setTop (mkF m 29 #[.val (.int b), .val (.int (b &&& (3 : Int32)))] [(.ref k_TEXT)])) (fun t kt => st6 t kt) ?_
        exact ret_a X6 hx hlk hret rfl rfl (hb hby dKN_29) (by decide) (by decide) (⟨_, rfl, N0, e6, rfl⟩)
      · refine Go.st (S' := T.setTop (mkF m 30 #[.val (.int b), .val (.int (b &&& (3 : Int32)))] [])) (fun t kt => XS.icmpYes X.here hx rfl (pc0 := 23) (pc' := 30) rfl (hb hby dKN_23) rfl (XT.ii_ne_t hc23_5) (by decide) (by decide) kt) ?_
        obtain ⟨T7, X7, e7, st7⟩ := getS X hx hZ (host := "") hown (hw _ (List.mem_of_getElem? (i := 45) rfl)) Via.refl eT S_SELF (g := (mkF m 30 #[.val (.int b), .val (.int (b &&& (3 : Int32)))] [])) rfl (hb hby dKN_30)
        refine Go.st (S' := T7.setTop (mkF m 33 #[.val (.int b), .val (.int (b &&& (3 : Int32)))] [(.ref k_SELF)])) (fun t kt => st7 t kt) ?_
        exact ret_a X7 hx hlk hret rfl rfl (hb hby dKN_33) (by decide) (by decide) (⟨_, rfl, N0, e7, rfl⟩)
theorem dMK_0 : decode method_4_code 0 = .ok (.iload_n 0, 1) := by decide +kernel
theorem dMK_1 : decode method_4_code 1 = .ok (.ifCond .ne 5, 3) := by decide +kernel
theorem dMK_4 : decode method_4_code 4 = .ok (.aconst_null, 1) := by decide +kernel
theorem dMK_5 : decode method_4_code 5 = .ok (.areturn, 1) := by decide +kernel
theorem dMK_6 : decode method_4_code 6 = .ok (.iload_n 0, 1) := by decide +kernel
theorem dMK_7 : decode method_4_code 7 = .ok (.iconst 1, 1) := by decide +kernel
theorem dMK_8 : decode method_4_code 8 = .ok (.if_icmp .ne 14, 3) := by decide +kernel
theorem dMK_11 : decode method_4_code 11 = .ok (.new 34, 3) := by decide +kernel
theorem dMK_14 : decode method_4_code 14 = .ok (.dup, 1) := by decide +kernel
theorem dMK_15 : decode method_4_code 15 = .ok (.iconst 0, 1) := by decide +kernel
theorem dMK_16 : decode method_4_code 16 = .ok (.newarray .char, 2) := by decide +kernel
theorem dMK_18 : decode method_4_code 18 = .ok (.invokespecial 36, 3) := by decide +kernel
theorem dMK_21 : decode method_4_code 21 = .ok (.areturn, 1) := by decide +kernel
theorem dMK_22 : decode method_4_code 22 = .ok (.iload_n 0, 1) := by decide +kernel
theorem dMK_23 : decode method_4_code 23 = .ok (.iconst 2, 1) := by decide +kernel
theorem dMK_24 : decode method_4_code 24 = .ok (.if_icmp .ne 19, 3) := by decide +kernel
theorem dMK_27 : decode method_4_code 27 = .ok (.new 34, 3) := by decide +kernel
theorem dMK_30 : decode method_4_code 30 = .ok (.dup, 1) := by decide +kernel
theorem dMK_31 : decode method_4_code 31 = .ok (.iconst 1, 1) := by decide +kernel
theorem dMK_32 : decode method_4_code 32 = .ok (.newarray .char, 2) := by decide +kernel
theorem dMK_34 : decode method_4_code 34 = .ok (.dup, 1) := by decide +kernel
theorem dMK_35 : decode method_4_code 35 = .ok (.iconst 0, 1) := by decide +kernel
theorem dMK_36 : decode method_4_code 36 = .ok (.iload_n 1, 1) := by decide +kernel
theorem dMK_37 : decode method_4_code 37 = .ok (.i2c, 1) := by decide +kernel
theorem dMK_38 : decode method_4_code 38 = .ok (.castore, 1) := by decide +kernel
theorem dMK_39 : decode method_4_code 39 = .ok (.invokespecial 36, 3) := by decide +kernel
theorem dMK_42 : decode method_4_code 42 = .ok (.areturn, 1) := by decide +kernel
theorem dMK_43 : decode method_4_code 43 = .ok (.new 34, 3) := by decide +kernel
theorem dMK_46 : decode method_4_code 46 = .ok (.dup, 1) := by decide +kernel
theorem dMK_47 : decode method_4_code 47 = .ok (.iconst 2, 1) := by decide +kernel
theorem dMK_48 : decode method_4_code 48 = .ok (.newarray .char, 2) := by decide +kernel
theorem dMK_50 : decode method_4_code 50 = .ok (.dup, 1) := by decide +kernel
theorem dMK_51 : decode method_4_code 51 = .ok (.iconst 0, 1) := by decide +kernel
theorem dMK_52 : decode method_4_code 52 = .ok (.iload_n 1, 1) := by decide +kernel
theorem dMK_53 : decode method_4_code 53 = .ok (.i2c, 1) := by decide +kernel
theorem dMK_54 : decode method_4_code 54 = .ok (.castore, 1) := by decide +kernel
theorem dMK_55 : decode method_4_code 55 = .ok (.dup, 1) := by decide +kernel
theorem dMK_56 : decode method_4_code 56 = .ok (.iconst 1, 1) := by decide +kernel
theorem dMK_57 : decode method_4_code 57 = .ok (.iload_n 2, 1) := by decide +kernel
theorem dMK_58 : decode method_4_code 58 = .ok (.i2c, 1) := by decide +kernel
theorem dMK_59 : decode method_4_code 59 = .ok (.castore, 1) := by decide +kernel
theorem dMK_60 : decode method_4_code 60 = .ok (.invokespecial 36, 3) := by decide +kernel
theorem dMK_63 : decode method_4_code 63 = .ok (.areturn, 1) := by decide +kernel
theorem pd___C_V : parseMethodDescriptor "([C)V" = some ⟨[(.array .char)], none⟩ := by decide +kernel
theorem ef_rmMK (m : MethodId) (md : Int32) (c0 : Int32) (c1 : Int32) : entryFrame m #[(.int md), (.int c0), (.int c1)] 3 = mkF m 0 #[.val (.int md), .val (.int c0), .val (.int c1)] [] := by first | exact own_entry rfl | (simp [entryFrame, mkF, argsToLocals, Value.category]; done) | rfl
set_option maxRecDepth 65536 in
set_option maxHeartbeats 40000000 in
theorem rmMK (l : Launch) (Z : State) (a0 : Array Value) (hw : ∀ d ∈ tables_1, d.before a0 Z = true) (md c0 c1 : Int32) (h0 : Heap) (n0 : Nat) (Z0 : n0 ≤ h0.size) (cs : Int32) (S_cs : Sta Z h0 "java/lang/String" "COMPACT_STRINGS" "Z" (.int cs)) (hcs : ¬ cs = 0) (hc0 : own_lo c0) (hc1 : own_lo c1) :
    PaysW l (⟨"com/example/sunder/sunder/query/StepAdmitsEveryPinLaw", "mk", "(III)Ljava/lang/String;"⟩ : MethodName) method_4_code 3 (some (.object "java/lang/String")) ({ frames := 4, cells := 4, slots := 8, locals := 66 } : Room) Z own_EL #[(.int md), (.int c0), (.int c1)] h0 (fun v h L => ∃ u, v = some u ∧ Fr n0 L ∧ Keep h0 h [] ∧ (∀ a, u = .ref a → h0.size ≤ a) ∧ StrIs Z h u (own_co md c0 c1)) := by
  refine PaysW.of (plainFor_of_name pn_com_example_sunder_sunder_query_StepAdmitsEveryPinLaw) ?_
  intro pP eE sS m below methM cC T hx hby hml hret hlk hZ0 hown0 hnm eT X C0 hS
  replace hown0 : sS.vm.findClass "com/example/sunder/sunder/query/StepAdmitsEveryPinLaw" = some m.cls := hown0
  have hown : (sS.setVm sS.vm).vm.findClass "com/example/sunder/sunder/query/StepAdmitsEveryPinLaw" = some m.cls := hown0
  have hZ : Z.Warmed39 (sS.setVm sS.vm).vm := hZ0
  have hk : 0 ≤ h0.size := Nat.zero_le _
  have hEL := own_ew hw
  have N0 := Fr.nil n0
  have K0 := Keep.refl h0 ([] : List Addr)
  refine Go.cast (ef_rmMK m md c0 c1) ?_
  refine Go.st (S' := T.setTop (mkF m 1 #[.val (.int md), .val (.int c0), .val (.int c1)] [(.int md)])) (fun t kt => XS.iloadN X.here hx rfl (hb hby dMK_0) rfl kt) ?_
  by_cases hc1_1 : md = 0
  · refine Go.st (S' := T.setTop (mkF m 4 #[.val (.int md), .val (.int c0), .val (.int c1)] [])) (fun t kt => XS.ifNo X.here hx rfl (hb hby dMK_1) rfl (XT.i0_ne_f hc1_1) kt) ?_
    refine Go.st (S' := T.setTop (mkF m 5 #[.val (.int md), .val (.int c0), .val (.int c1)] [.null])) (fun t kt => XS.aconstNull X.here hx rfl (hb hby dMK_4) kt) ?_
    exact retw_a X hZ hEL eT C0 hS hk hx hlk hret rfl rfl (hb hby dMK_5) (by decide) (by decide) (by rw [eT]; exact ⟨_, rfl, N0, K0, (fun _ q => nomatch q), Or.inl ⟨rfl, (by simp [own_co, hc1_1])⟩⟩)
  · refine Go.st (S' := T.setTop (mkF m 6 #[.val (.int md), .val (.int c0), .val (.int c1)] [])) (fun t kt => XS.ifYes X.here hx rfl (pc0 := 1) (pc' := 6) rfl (hb hby dMK_1) rfl (XT.i0_ne_t hc1_1) (by decide) (by decide) kt) ?_
    refine Go.st (S' := T.setTop (mkF m 7 #[.val (.int md), .val (.int c0), .val (.int c1)] [(.int md)])) (fun t kt => XS.iloadN X.here hx rfl (hb hby dMK_6) rfl kt) ?_
    refine Go.st (S' := T.setTop (mkF m 8 #[.val (.int md), .val (.int c0), .val (.int c1)] [(.int (1 : Int32)), (.int md)])) (fun t kt => XS.iconst X.here hx rfl (hb hby dMK_7) kt) ?_
    by_cases hc8_2 : md = (1 : Int32)
    · refine Go.st (S' := T.setTop (mkF m 11 #[.val (.int md), .val (.int c0), .val (.int c1)] [])) (fun t kt => XS.icmpNo X.here hx rfl (hb hby dMK_8) rfl (XT.ii_ne_f hc8_2) kt) ?_
      obtain ⟨T3, h3, X3, e3, E3, A3, D3, -, st3⟩ := newO X hx hZ hown (hw _ (List.mem_of_getElem? (i := 47) rfl)) (hw _ (List.mem_of_getElem? (i := 48) rfl)) (hw _ (List.mem_of_getElem? (i := 49) rfl)) eT (g := (mkF m 11 #[.val (.int md), .val (.int c0), .val (.int c1)] [])) rfl (hb hby dMK_11) (by decide) (by decide)
      obtain ⟨a3, g3⟩ : ∃ z, z = h0.size := ⟨_, rfl⟩
      rw [← g3] at A3 D3 st3
      have Z3 : n0 ≤ h3.size := Nat.le_trans Z0 E3.1
      have S3 : Safe Z own_EL sS.vm h0 a3 := Safe.new (Nat.le_of_eq g3.symm)
      have C3 := CHr.trans C0 (CHr.ext E3 C0.1)
      have hk := Nat.le_trans hk E3.1
      have F3_coder : Fld Z h3 a3 "java/lang/String" "coder" "B" (.int (0 : Int32)) := D3 (Or.inr (hw _ (List.mem_of_getElem? (i := 72) rfl))) (ty := .byte) (by decide)
      have F3_value : Fld Z h3 a3 "java/lang/String" "value" "[B" .null := D3 (Or.inr (hw _ (List.mem_of_getElem? (i := 74) rfl))) (ty := (.array .byte)) (by decide)
      have K3 := Keep.ext K0 E3
      have sz_a3 : h0.size ≤ a3 := Nat.le_trans K0.1 (Nat.le_of_eq g3.symm)
      refine Go.st (S' := T3.setTop (mkF m 14 #[.val (.int md), .val (.int c0), .val (.int c1)] [(.ref a3)])) (fun t kt => st3 t kt) ?_
      refine Go.st (S' := T3.setTop (mkF m 15 #[.val (.int md), .val (.int c0), .val (.int c1)] [(.ref a3), (.ref a3)])) (fun t kt => XS.dup X3.here hx rfl (hb hby dMK_14) rfl rfl kt) ?_
      refine Go.st (S' := T3.setTop (mkF m 16 #[.val (.int md), .val (.int c0), .val (.int c1)] [(.int (0 : Int32)), (.ref a3), (.ref a3)])) (fun t kt => XS.iconst X3.here hx rfl (hb hby dMK_15) kt) ?_
      obtain ⟨T4, h4, k4, X4, e4, E4, A4, st4⟩ := newP X3 hx hZ (hw _ (List.mem_of_getElem? (i := 50) rfl)) e3 (g := (mkF m 16 #[.val (.int md), .val (.int c0), .val (.int c1)] [(.int (0 : Int32)), (.ref a3), (.ref a3)])) rfl (hb hby dMK_16) rfl (by decide) (cap := 0) (by decide) (by decide) (by decide) (by decide)
      obtain ⟨a4, g4⟩ : ∃ z, z = h3.size := ⟨_, rfl⟩
      rw [← g4] at A4 st4
      have V4 : Arv Z h4 a4 k4 .char (0 : Int32) [] (.int (0 : Int32)) := Arv.pad (Arv.new A4 (by decide)) (pad_rep [] _ 0)
      have Z4 : n0 ≤ h4.size := Nat.le_trans Z3 E4.1
      have S4 : Safe Z own_EL sS.vm h3 a4 := Safe.new (Nat.le_of_eq g4.symm)
      have C4 := CHr.trans C3 (CHr.ext E4 C3.1)
      have hk := Nat.le_trans hk E4.1
      have K4 := Keep.ext K3 E4
      have sz_a4 : h0.size ≤ a4 := Nat.le_trans K3.1 (Nat.le_of_eq g4.symm)
      refine Go.st (S' := T4.setTop (mkF m 18 #[.val (.int md), .val (.int c0), .val (.int c1)] [(.ref a4), (.ref a3), (.ref a3)])) (fun t kt => st4 t kt) ?_
      have f5 := (A3.ext E4)
      have f6 := (F3_value.ext E4)
      have f7 := (F3_coder.ext E4)
      refine Go.initW X4 hx hZ hEL C4.1 hS hk rfl hown (hw _ (List.mem_of_getElem? (i := 51) rfl)) (hw _ (List.mem_of_getElem? (i := 52) rfl)) (hw _ (List.mem_of_getElem? (i := 53) rfl)) (hw _ (List.mem_of_getElem? (i := 49) rfl)) (by decide) (b := a3) (argsL := [(.ref a4)]) (rest := [(.ref a3)]) (rmK1_0 l Z a0 hw a3 a4 k4 h4 n0 Z4 f5 (Nat.le_trans Z0 (Nat.le_of_eq g3.symm)) (Ne.symm (Nat.ne_of_lt (by rw [g4]; exact A3.lt))) f6 f7 V4) e4 rfl (by rw [hml]; rfl) pd___C_V rfl (hb hby dMK_18) 1 (Nat.le_refl _) (by decide) (by decide) (by decide) (by decide) ?_
      intro v8 T8 L8 X8 hQ8 A8 hS
      have hk : T8.heap.size ≤ T8.heap.size := Nat.le_refl _
      have hZ := own_hZ hZ0 hS
      have hown := own_hown hown0 hS
      obtain ⟨d8, k8, hv8, N8', K8', f8_0, f8_1, f8_2, f8_3⟩ := hQ8
      subst hv8
      have N8 := Fr.app N0 N8'
      have Z8 : n0 ≤ T8.heap.size := Nat.le_trans Z4 K8'.1
      have eh8 : T8.heap = T8.heap := rfl
      have C8 := CHr.trans C4 A8
      have K8 := Keep.trans K4 K8' (allS (Or.inr sz_a3) all0)
      show Go pP eE below _ (T8.setTop (mkF m 21 #[.val (.int md), .val (.int c0), .val (.int c1)] [(.ref a3)]))
      exact retw_a X8 hZ hEL eh8 C8 hS hk hx hlk hret rfl rfl (hb hby dMK_21) (by decide) (by decide) (by rw [eh8]; exact ⟨_, rfl, N8, K8, (fun _ q => Value.ref.inj q ▸ sz_a3), Or.inr ⟨_, rfl, Or.inl ⟨(by simp [own_co, hc1_1, hc8_2]), ⟨_, _, f8_0, f8_1, f8_2, f8_3⟩⟩⟩⟩)
    · refine Go.st (S' := T.setTop (mkF m 22 #[.val (.int md), .val (.int c0), .val (.int c1)] [])) (fun t kt => XS.icmpYes X.here hx rfl (pc0 := 8) (pc' := 22) rfl (hb hby dMK_8) rfl (XT.ii_ne_t hc8_2) (by decide) (by decide) kt) ?_
      refine Go.st (S' := T.setTop (mkF m 23 #[.val (.int md), .val (.int c0), .val (.int c1)] [(.int md)])) (fun t kt => XS.iloadN X.here hx rfl (hb hby dMK_22) rfl kt) ?_
      refine Go.st (S' := T.setTop (mkF m 24 #[.val (.int md), .val (.int c0), .val (.int c1)] [(.int (2 : Int32)), (.int md)])) (fun t kt => XS.iconst X.here hx rfl (hb hby dMK_23) kt) ?_
      by_cases hc24_9 : md = (2 : Int32)
      · refine Go.st (S' := T.setTop (mkF m 27 #[.val (.int md), .val (.int c0), .val (.int c1)] [])) (fun t kt => XS.icmpNo X.here hx rfl (hb hby dMK_24) rfl (XT.ii_ne_f hc24_9) kt) ?_
        obtain ⟨T10, h10, X10, e10, E10, A10, D10, -, st10⟩ := newO X hx hZ hown (hw _ (List.mem_of_getElem? (i := 47) rfl)) (hw _ (List.mem_of_getElem? (i := 48) rfl)) (hw _ (List.mem_of_getElem? (i := 49) rfl)) eT (g := (mkF m 27 #[.val (.int md), .val (.int c0), .val (.int c1)] [])) rfl (hb hby dMK_27) (by decide) (by decide)
        obtain ⟨a10, g10⟩ : ∃ z, z = h0.size := ⟨_, rfl⟩
        rw [← g10] at A10 D10 st10
        have Z10 : n0 ≤ h10.size := Nat.le_trans Z0 E10.1
        have S10 : Safe Z own_EL sS.vm h0 a10 := Safe.new (Nat.le_of_eq g10.symm)
        have C10 := CHr.trans C0 (CHr.ext E10 C0.1)
        have hk := Nat.le_trans hk E10.1
        have F10_coder : Fld Z h10 a10 "java/lang/String" "coder" "B" (.int (0 : Int32)) := D10 (Or.inr (hw _ (List.mem_of_getElem? (i := 72) rfl))) (ty := .byte) (by decide)
        have F10_value : Fld Z h10 a10 "java/lang/String" "value" "[B" .null := D10 (Or.inr (hw _ (List.mem_of_getElem? (i := 74) rfl))) (ty := (.array .byte)) (by decide)
        have K10 := Keep.ext K0 E10
        have sz_a10 : h0.size ≤ a10 := Nat.le_trans K0.1 (Nat.le_of_eq g10.symm)
        refine Go.st (S' := T10.setTop (mkF m 30 #[.val (.int md), .val (.int c0), .val (.int c1)] [(.ref a10)])) (fun t kt => st10 t kt) ?_
        refine Go.st (S' := T10.setTop (mkF m 31 #[.val (.int md), .val (.int c0), .val (.int c1)] [(.ref a10), (.ref a10)])) (fun t kt => XS.dup X10.here hx rfl (hb hby dMK_30) rfl rfl kt) ?_
        refine Go.st (S' := T10.setTop (mkF m 32 #[.val (.int md), .val (.int c0), .val (.int c1)] [(.int (1 : Int32)), (.ref a10), (.ref a10)])) (fun t kt => XS.iconst X10.here hx rfl (hb hby dMK_31) kt) ?_
        obtain ⟨T11, h11, k11, X11, e11, E11, A11, st11⟩ := newP X10 hx hZ (hw _ (List.mem_of_getElem? (i := 50) rfl)) e10 (g := (mkF m 32 #[.val (.int md), .val (.int c0), .val (.int c1)] [(.int (1 : Int32)), (.ref a10), (.ref a10)])) rfl (hb hby dMK_32) rfl (by decide) (cap := 1) (by decide) (by decide) (by decide) (by decide)
        obtain ⟨a11, g11⟩ : ∃ z, z = h10.size := ⟨_, rfl⟩
        rw [← g11] at A11 st11
        have V11 : Arv Z h11 a11 k11 .char (1 : Int32) [(.int (0 : Int32))] (.int (0 : Int32)) := Arv.pad (Arv.new A11 (by decide)) (pad_rep [] _ 1)
        have Z11 : n0 ≤ h11.size := Nat.le_trans Z10 E11.1
        have S11 : Safe Z own_EL sS.vm h10 a11 := Safe.new (Nat.le_of_eq g11.symm)
        have C11 := CHr.trans C10 (CHr.ext E11 C10.1)
        have hk := Nat.le_trans hk E11.1
        have K11 := Keep.ext K10 E11
        have sz_a11 : h0.size ≤ a11 := Nat.le_trans K10.1 (Nat.le_of_eq g11.symm)
        refine Go.st (S' := T11.setTop (mkF m 34 #[.val (.int md), .val (.int c0), .val (.int c1)] [(.ref a11), (.ref a10), (.ref a10)])) (fun t kt => st11 t kt) ?_
        refine Go.st (S' := T11.setTop (mkF m 35 #[.val (.int md), .val (.int c0), .val (.int c1)] [(.ref a11), (.ref a11), (.ref a10), (.ref a10)])) (fun t kt => XS.dup X11.here hx rfl (hb hby dMK_34) rfl rfl kt) ?_
        refine Go.st (S' := T11.setTop (mkF m 36 #[.val (.int md), .val (.int c0), .val (.int c1)] [(.int (0 : Int32)), (.ref a11), (.ref a11), (.ref a10), (.ref a10)])) (fun t kt => XS.iconst X11.here hx rfl (hb hby dMK_35) kt) ?_
        refine Go.st (S' := T11.setTop (mkF m 37 #[.val (.int md), .val (.int c0), .val (.int c1)] [(.int c0), (.int (0 : Int32)), (.ref a11), (.ref a11), (.ref a10), (.ref a10)])) (fun t kt => XS.iloadN X11.here hx rfl (hb hby dMK_36) rfl kt) ?_
        refine Go.st (S' := T11.setTop (mkF m 38 #[.val (.int md), .val (.int c0), .val (.int c1)] [(.int (c0).toUInt32.toUInt16.toUInt32.toInt32), (.int (0 : Int32)), (.ref a11), (.ref a11), (.ref a10), (.ref a10)])) (fun t kt => XT.i2c X11.here hx rfl (hb hby dMK_37) rfl kt) ?_
        obtain ⟨cl12, Ar12, q12, S12, M12, H12, G12⟩ := id V11
        obtain ⟨T12, h12, X12, e12, W12, st12⟩ := stC X11 hx hZ e11 Ar12 (j := (0 : Int32)) (inb_of S12 ⟨by decide, by decide⟩)  (g := (mkF m 38 #[.val (.int md), .val (.int c0), .val (.int c1)] [(.int (c0).toUInt32.toUInt16.toUInt32.toInt32), (.int (0 : Int32)), (.ref a11), (.ref a11), (.ref a10), (.ref a10)])) rfl rfl (hb hby dMK_38)
        have V12 : Arv Z h12 a11 k11 .char (1 : Int32) [(.int (nar .char (c0).toUInt32.toUInt16.toUInt32.toInt32))] (.int (0 : Int32)) := Arv.set Ar12 q12 S12 M12 H12 G12 (fits_nar_char _) W12 0 rfl (Nat.le_of_ble_eq_true rfl)
        have N12 := Fr.snoc X12 N0 (Nat.le_trans Z10 (Nat.le_of_eq g11.symm))
        have Z12 : n0 ≤ h12.size := by rw [Wr.size W12]; exact Z11
        have f13 := (Safe.ext E11 C10.1 S11)
        have C12 := CHr.trans C11 (CHr.wr W12 f13 C11.1)
        have hk := Nat.le_trans hk (Nat.le_of_eq (Wr.size W12).symm)
        have K12 := Keep.wr K11 W12 (Or.inr sz_a11)
        refine Go.st (S' := T12.setTop (mkF m 39 #[.val (.int md), .val (.int c0), .val (.int c1)] [(.ref a11), (.ref a10), (.ref a10)])) (fun t kt => st12 t kt) ?_
        have f14 := (Exa.wr W12 (A10.ext E11))
        have f15 := (Fld.other W12 (F10_value.ext E11) (Or.inl (Nat.ne_of_lt (by rw [g11]; exact A10.lt))))
        have f16 := (Fld.other W12 (F10_coder.ext E11) (Or.inl (Nat.ne_of_lt (by rw [g11]; exact A10.lt))))
        have f17 := (Sta.wr W12 ((S_cs.ext E10).ext E11))
        refine Go.init X12 hx hZ rfl hown (hw _ (List.mem_of_getElem? (i := 51) rfl)) (hw _ (List.mem_of_getElem? (i := 52) rfl)) (hw _ (List.mem_of_getElem? (i := 53) rfl)) (hw _ (List.mem_of_getElem? (i := 49) rfl)) (by decide) (b := a10) (argsL := [(.ref a11)]) (rest := [(.ref a10)]) (rmK1_1 l Z a0 hw a10 a11 k11 (nar .char (c0).toUInt32.toUInt16.toUInt32.toInt32) h12 n0 Z12 f14 (Nat.le_trans Z0 (Nat.le_of_eq g10.symm)) (Ne.symm (Nat.ne_of_lt (by rw [g11]; exact A10.lt))) f15 f16 V12 (own_char hc0) cs f17 hcs) e12 rfl (by rw [hml]; rfl) pd___C_V rfl (hb hby dMK_39) 1 (Nat.le_refl _) (by decide) (by decide) (by decide) (by decide) ?_
        intro v18 T18 L18 X18 hQ18
        have f19 := (Safe.wr W12 f13 C11.1 (Safe.ext E11 C10.1 (Safe.ext E10 C0.1 S10)))
        obtain ⟨d18, k18, hv18, N18', K18', y18_0, u18_0, f18_0, f18_1, f18_2, f18_3⟩ := hQ18
        subst hv18
        have N18 := Fr.app N12 N18'
        have Z18 : n0 ≤ T18.heap.size := Nat.le_trans Z12 K18'.1
        have eh18 : T18.heap = T18.heap := rfl
        have C18 := CHr.trans C12 (CHr.keep K18' (allS f19 all0) C12.1)
        have hk := Nat.le_trans hk K18'.1
        have sz_d18 : h0.size ≤ d18 := Nat.le_trans K12.1 y18_0
        have K18 := Keep.trans K12 K18' (allS (Or.inr sz_a10) all0)
        show Go pP eE below _ (T18.setTop (mkF m 42 #[.val (.int md), .val (.int c0), .val (.int c1)] [(.ref a10)]))
        exact retw_a X18 hZ hEL eh18 C18 hS hk hx hlk hret rfl rfl (hb hby dMK_42) (by decide) (by decide) (by rw [eh18]; exact ⟨_, rfl, N18, K18, (fun _ q => Value.ref.inj q ▸ sz_a10), Or.inr ⟨_, rfl, Or.inr (Or.inl ⟨own_by c0, (by simp [own_co, hc1_1, hc8_2, hc24_9]), ⟨_, _, f18_0, f18_1, f18_2, f18_3⟩⟩)⟩⟩)
      · refine Go.st (S' := T.setTop (mkF m 43 #[.val (.int md), .val (.int c0), .val (.int c1)] [])) (fun t kt => XS.icmpYes X.here hx rfl (pc0 := 24) (pc' := 43) rfl (hb hby dMK_24) rfl (XT.ii_ne_t hc24_9) (by decide) (by decide) kt) ?_
        obtain ⟨T20, h20, X20, e20, E20, A20, D20, -, st20⟩ := newO X hx hZ hown (hw _ (List.mem_of_getElem? (i := 47) rfl)) (hw _ (List.mem_of_getElem? (i := 48) rfl)) (hw _ (List.mem_of_getElem? (i := 49) rfl)) eT (g := (mkF m 43 #[.val (.int md), .val (.int c0), .val (.int c1)] [])) rfl (hb hby dMK_43) (by decide) (by decide)
        obtain ⟨a20, g20⟩ : ∃ z, z = h0.size := ⟨_, rfl⟩
        rw [← g20] at A20 D20 st20
        have Z20 : n0 ≤ h20.size := Nat.le_trans Z0 E20.1
        have S20 : Safe Z own_EL sS.vm h0 a20 := Safe.new (Nat.le_of_eq g20.symm)
        have C20 := CHr.trans C0 (CHr.ext E20 C0.1)
        have hk := Nat.le_trans hk E20.1
        have F20_coder : Fld Z h20 a20 "java/lang/String" "coder" "B" (.int (0 : Int32)) := D20 (Or.inr (hw _ (List.mem_of_getElem? (i := 72) rfl))) (ty := .byte) (by decide)
        have F20_value : Fld Z h20 a20 "java/lang/String" "value" "[B" .null := D20 (Or.inr (hw _ (List.mem_of_getElem? (i := 74) rfl))) (ty := (.array .byte)) (by decide)
        have K20 := Keep.ext K0 E20
        have sz_a20 : h0.size ≤ a20 := Nat.le_trans K0.1 (Nat.le_of_eq g20.symm)
        refine Go.st (S' := T20.setTop (mkF m 46 #[.val (.int md), .val (.int c0), .val (.int c1)] [(.ref a20)])) (fun t kt => st20 t kt) ?_
        refine Go.st (S' := T20.setTop (mkF m 47 #[.val (.int md), .val (.int c0), .val (.int c1)] [(.ref a20), (.ref a20)])) (fun t kt => XS.dup X20.here hx rfl (hb hby dMK_46) rfl rfl kt) ?_
        refine Go.st (S' := T20.setTop (mkF m 48 #[.val (.int md), .val (.int c0), .val (.int c1)] [(.int (2 : Int32)), (.ref a20), (.ref a20)])) (fun t kt => XS.iconst X20.here hx rfl (hb hby dMK_47) kt) ?_
        obtain ⟨T21, h21, k21, X21, e21, E21, A21, st21⟩ := newP X20 hx hZ (hw _ (List.mem_of_getElem? (i := 50) rfl)) e20 (g := (mkF m 48 #[.val (.int md), .val (.int c0), .val (.int c1)] [(.int (2 : Int32)), (.ref a20), (.ref a20)])) rfl (hb hby dMK_48) rfl (by decide) (cap := 2) (by decide) (by decide) (by decide) (by decide)
        obtain ⟨a21, g21⟩ : ∃ z, z = h20.size := ⟨_, rfl⟩
        rw [← g21] at A21 st21
        have V21 : Arv Z h21 a21 k21 .char (2 : Int32) [(.int (0 : Int32)), (.int (0 : Int32))] (.int (0 : Int32)) := Arv.pad (Arv.new A21 (by decide)) (pad_rep [] _ 2)
        have Z21 : n0 ≤ h21.size := Nat.le_trans Z20 E21.1
        have S21 : Safe Z own_EL sS.vm h20 a21 := Safe.new (Nat.le_of_eq g21.symm)
        have C21 := CHr.trans C20 (CHr.ext E21 C20.1)
        have hk := Nat.le_trans hk E21.1
        have K21 := Keep.ext K20 E21
        have sz_a21 : h0.size ≤ a21 := Nat.le_trans K20.1 (Nat.le_of_eq g21.symm)
        refine Go.st (S' := T21.setTop (mkF m 50 #[.val (.int md), .val (.int c0), .val (.int c1)] [(.ref a21), (.ref a20), (.ref a20)])) (fun t kt => st21 t kt) ?_
        refine Go.st (S' := T21.setTop (mkF m 51 #[.val (.int md), .val (.int c0), .val (.int c1)] [(.ref a21), (.ref a21), (.ref a20), (.ref a20)])) (fun t kt => XS.dup X21.here hx rfl (hb hby dMK_50) rfl rfl kt) ?_
        refine Go.st (S' := T21.setTop (mkF m 52 #[.val (.int md), .val (.int c0), .val (.int c1)] [(.int (0 : Int32)), (.ref a21), (.ref a21), (.ref a20), (.ref a20)])) (fun t kt => XS.iconst X21.here hx rfl (hb hby dMK_51) kt) ?_
        refine Go.st (S' := T21.setTop (mkF m 53 #[.val (.int md), .val (.int c0), .val (.int c1)] [(.int c0), (.int (0 : Int32)), (.ref a21), (.ref a21), (.ref a20), (.ref a20)])) (fun t kt => XS.iloadN X21.here hx rfl (hb hby dMK_52) rfl kt) ?_
        refine Go.st (S' := T21.setTop (mkF m 54 #[.val (.int md), .val (.int c0), .val (.int c1)] [(.int (c0).toUInt32.toUInt16.toUInt32.toInt32), (.int (0 : Int32)), (.ref a21), (.ref a21), (.ref a20), (.ref a20)])) (fun t kt => XT.i2c X21.here hx rfl (hb hby dMK_53) rfl kt) ?_
        obtain ⟨cl22, Ar22, q22, S22, M22, H22, G22⟩ := id V21
        obtain ⟨T22, h22, X22, e22, W22, st22⟩ := stC X21 hx hZ e21 Ar22 (j := (0 : Int32)) (inb_of S22 ⟨by decide, by decide⟩)  (g := (mkF m 54 #[.val (.int md), .val (.int c0), .val (.int c1)] [(.int (c0).toUInt32.toUInt16.toUInt32.toInt32), (.int (0 : Int32)), (.ref a21), (.ref a21), (.ref a20), (.ref a20)])) rfl rfl (hb hby dMK_54)
        have V22 : Arv Z h22 a21 k21 .char (2 : Int32) [(.int (nar .char (c0).toUInt32.toUInt16.toUInt32.toInt32)), (.int (0 : Int32))] (.int (0 : Int32)) := Arv.set Ar22 q22 S22 M22 H22 G22 (fits_nar_char _) W22 0 rfl (Nat.le_of_ble_eq_true rfl)
        have N22 := Fr.snoc X22 N0 (Nat.le_trans Z20 (Nat.le_of_eq g21.symm))
        have Z22 : n0 ≤ h22.size := by rw [Wr.size W22]; exact Z21
        have f23 := (Safe.ext E21 C20.1 S21)
        have C22 := CHr.trans C21 (CHr.wr W22 f23 C21.1)
        have hk := Nat.le_trans hk (Nat.le_of_eq (Wr.size W22).symm)
        have K22 := Keep.wr K21 W22 (Or.inr sz_a21)
        refine Go.st (S' := T22.setTop (mkF m 55 #[.val (.int md), .val (.int c0), .val (.int c1)] [(.ref a21), (.ref a20), (.ref a20)])) (fun t kt => st22 t kt) ?_
        refine Go.st (S' := T22.setTop (mkF m 56 #[.val (.int md), .val (.int c0), .val (.int c1)] [(.ref a21), (.ref a21), (.ref a20), (.ref a20)])) (fun t kt => XS.dup X22.here hx rfl (hb hby dMK_55) rfl rfl kt) ?_
        refine Go.st (S' := T22.setTop (mkF m 57 #[.val (.int md), .val (.int c0), .val (.int c1)] [(.int (1 : Int32)), (.ref a21), (.ref a21), (.ref a20), (.ref a20)])) (fun t kt => XS.iconst X22.here hx rfl (hb hby dMK_56) kt) ?_
        refine Go.st (S' := T22.setTop (mkF m 58 #[.val (.int md), .val (.int c0), .val (.int c1)] [(.int c1), (.int (1 : Int32)), (.ref a21), (.ref a21), (.ref a20), (.ref a20)])) (fun t kt => XS.iloadN X22.here hx rfl (hb hby dMK_57) rfl kt) ?_
        refine Go.st (S' := T22.setTop (mkF m 59 #[.val (.int md), .val (.int c0), .val (.int c1)] [(.int (c1).toUInt32.toUInt16.toUInt32.toInt32), (.int (1 : Int32)), (.ref a21), (.ref a21), (.ref a20), (.ref a20)])) (fun t kt => XT.i2c X22.here hx rfl (hb hby dMK_58) rfl kt) ?_
        obtain ⟨cl24, Ar24, q24, S24, M24, H24, G24⟩ := id V22
        obtain ⟨T24, h24, X24, e24, W24, st24⟩ := stC X22 hx hZ e22 Ar24 (j := (1 : Int32)) (inb_of S24 ⟨by decide, by decide⟩)  (g := (mkF m 59 #[.val (.int md), .val (.int c0), .val (.int c1)] [(.int (c1).toUInt32.toUInt16.toUInt32.toInt32), (.int (1 : Int32)), (.ref a21), (.ref a21), (.ref a20), (.ref a20)])) rfl rfl (hb hby dMK_59)
        have V24 : Arv Z h24 a21 k21 .char (2 : Int32) [(.int (nar .char (c0).toUInt32.toUInt16.toUInt32.toInt32)), (.int (nar .char (c1).toUInt32.toUInt16.toUInt32.toInt32))] (.int (0 : Int32)) := Arv.set Ar24 q24 S24 M24 H24 G24 (fits_nar_char _) W24 1 rfl (Nat.le_of_ble_eq_true rfl)
        have N24 := Fr.snoc X24 N22 (Nat.le_trans Z20 (Nat.le_of_eq g21.symm))
        have Z24 : n0 ≤ h24.size := by rw [Wr.size W24]; exact Z22
        have f25 := (Safe.wr W22 f23 C21.1 f23)
        have C24 := CHr.trans C22 (CHr.wr W24 f25 C22.1)
        have hk := Nat.le_trans hk (Nat.le_of_eq (Wr.size W24).symm)
        have K24 := Keep.wr K22 W24 (Or.inr sz_a21)
        refine Go.st (S' := T24.setTop (mkF m 60 #[.val (.int md), .val (.int c0), .val (.int c1)] [(.ref a21), (.ref a20), (.ref a20)])) (fun t kt => st24 t kt) ?_
        have f26 := (Exa.wr W24 (Exa.wr W22 (A20.ext E21)))
        have f27 := (Fld.other W24 (Fld.other W22 (F20_value.ext E21) (Or.inl (Nat.ne_of_lt (by rw [g21]; exact A20.lt)))) (Or.inl (Nat.ne_of_lt (by rw [g21]; exact A20.lt))))
        have f28 := (Fld.other W24 (Fld.other W22 (F20_coder.ext E21) (Or.inl (Nat.ne_of_lt (by rw [g21]; exact A20.lt)))) (Or.inl (Nat.ne_of_lt (by rw [g21]; exact A20.lt))))
        have f29 := (Sta.wr W24 (Sta.wr W22 ((S_cs.ext E20).ext E21)))
        refine Go.init X24 hx hZ rfl hown (hw _ (List.mem_of_getElem? (i := 51) rfl)) (hw _ (List.mem_of_getElem? (i := 52) rfl)) (hw _ (List.mem_of_getElem? (i := 53) rfl)) (hw _ (List.mem_of_getElem? (i := 49) rfl)) (by decide) (b := a20) (argsL := [(.ref a21)]) (rest := [(.ref a20)]) (rmK1_2 l Z a0 hw a20 a21 k21 (nar .char (c0).toUInt32.toUInt16.toUInt32.toInt32) (nar .char (c1).toUInt32.toUInt16.toUInt32.toInt32) h24 n0 Z24 f26 (Nat.le_trans Z0 (Nat.le_of_eq g20.symm)) (Ne.symm (Nat.ne_of_lt (by rw [g21]; exact A20.lt))) f27 f28 V24 (own_char hc0) (own_char hc1) cs f29 hcs) e24 rfl (by rw [hml]; rfl) pd___C_V rfl (hb hby dMK_60) 1 (Nat.le_refl _) (by decide) (by decide) (by decide) (by decide) ?_
        intro v30 T30 L30 X30 hQ30
        have f31 := (Safe.wr W24 f25 C22.1 (Safe.wr W22 f23 C21.1 (Safe.ext E21 C20.1 (Safe.ext E20 C0.1 S20))))
        obtain ⟨d30, k30, hv30, N30', K30', y30_0, u30_0, f30_0, f30_1, f30_2, f30_3⟩ := hQ30
        subst hv30
        have N30 := Fr.app N24 N30'
        have Z30 : n0 ≤ T30.heap.size := Nat.le_trans Z24 K30'.1
        have eh30 : T30.heap = T30.heap := rfl
        have C30 := CHr.trans C24 (CHr.keep K30' (allS f31 all0) C24.1)
        have hk := Nat.le_trans hk K30'.1
        have sz_d30 : h0.size ≤ d30 := Nat.le_trans K24.1 y30_0
        have K30 := Keep.trans K24 K30' (allS (Or.inr sz_a20) all0)
        show Go pP eE below _ (T30.setTop (mkF m 63 #[.val (.int md), .val (.int c0), .val (.int c1)] [(.ref a20)]))
        exact retw_a X30 hZ hEL eh30 C30 hS hk hx hlk hret rfl rfl (hb hby dMK_63) (by decide) (by decide) (by rw [eh30]; exact ⟨_, rfl, N30, K30, (fun _ q => Value.ref.inj q ▸ sz_a20), Or.inr ⟨_, rfl, Or.inr (Or.inr ⟨own_by c0, own_by c1, (by simp [own_co, hc1_1, hc8_2, hc24_9]), ⟨_, _, f30_0, f30_1, f30_2, f30_3⟩⟩)⟩⟩)
theorem dRC_0 : decode jdk_30_method_1_code 0 = .ok (.aload_n 0, 1) := by decide +kernel
theorem dRC_1 : decode jdk_30_method_1_code 1 = .ok (.invokespecial 1, 3) := by decide +kernel
theorem dRC_4 : decode jdk_30_method_1_code 4 = .ok (.return_, 1) := by decide +kernel
theorem pn_java_lang_Record : plainName "java/lang/Record" = true := by first | (simp [plainName, overriddenIn]; done) | decide +kernel
theorem ef_rmRC (m : MethodId) (a : Addr) : entryFrame m #[(.ref a)] 1 = mkF m 0 #[.val (.ref a)] [] := by first | exact own_entry rfl | (simp [entryFrame, mkF, argsToLocals, Value.category]; done) | rfl
set_option maxRecDepth 65536 in
set_option maxHeartbeats 40000000 in
theorem rmRC (l : Launch) (Z : State) (a0 : Array Value) (hw : ∀ d ∈ tables_1, d.before a0 Z = true) (a : Addr) (h0 : Heap) (n0 : Nat) (Z0 : n0 ≤ h0.size) :
    Pays l (⟨"java/lang/Record", "<init>", "()V"⟩ : MethodName) jdk_30_method_1_code 1 none ({ frames := 1, cells := 0, slots := 0, locals := 12 } : Room) Z #[(.ref a)] h0 (fun v h L => v = none ∧ Fr n0 L ∧ h = h0) := by
  refine Pays.of (plainFor_of_name pn_java_lang_Record) ?_
  intro pP eE sS m below methM cC T hx hby hml hret hlk hZ hown hnm eT X
  replace hown : sS.vm.findClass "java/lang/Record" = some m.cls := hown
  have N0 := Fr.nil n0
  refine Go.cast (ef_rmRC m a) ?_
  refine Go.st (S' := T.setTop (mkF m 1 #[.val (.ref a)] [(.ref a)])) (fun t kt => XS.aloadN X.here hx rfl (hb hby dRC_0) rfl rfl kt) ?_
  obtain ⟨T1, X1, e1, st1⟩ := initO X hx hZ hown (hw _ (List.mem_of_getElem? (i := 24) rfl)) (hw _ (List.mem_of_getElem? (i := 25) rfl)) (hw _ (List.mem_of_getElem? (i := 26) rfl)) eT (g := (mkF m 1 #[.val (.ref a)] [(.ref a)])) rfl (by rw [hml]; rfl) rfl (hb hby dRC_1) (by decide) (W := 0) (by show 2 * 0 + _ ≤ _; exact Nat.le_of_eq rfl) (by decide)
  refine Go.st (S' := T1.setTop (mkF m 4 #[.val (.ref a)] [])) (fun t kt => st1 t kt) ?_
  exact ret_v X1 hx hlk hret (hb hby dRC_4) (by decide) (by decide) (⟨rfl, N0, e1⟩)
theorem dSI0_0 : decode prog_30_method_1_code 0 = .ok (.aload_n 0, 1) := by decide +kernel
theorem dSI0_1 : decode prog_30_method_1_code 1 = .ok (.invokespecial 1, 3) := by decide +kernel
theorem dSI0_4 : decode prog_30_method_1_code 4 = .ok (.aload_n 0, 1) := by decide +kernel
theorem dSI0_5 : decode prog_30_method_1_code 5 = .ok (.iload_n 1, 1) := by decide +kernel
theorem dSI0_6 : decode prog_30_method_1_code 6 = .ok (.putfield 7, 3) := by decide +kernel
theorem dSI0_9 : decode prog_30_method_1_code 9 = .ok (.aload_n 0, 1) := by decide +kernel
theorem dSI0_10 : decode prog_30_method_1_code 10 = .ok (.aload_n 2, 1) := by decide +kernel
theorem dSI0_11 : decode prog_30_method_1_code 11 = .ok (.putfield 13, 3) := by decide +kernel
theorem dSI0_14 : decode prog_30_method_1_code 14 = .ok (.aload_n 0, 1) := by decide +kernel
theorem dSI0_15 : decode prog_30_method_1_code 15 = .ok (.aload_n 3, 1) := by decide +kernel
theorem dSI0_16 : decode prog_30_method_1_code 16 = .ok (.putfield 17, 3) := by decide +kernel
theorem dSI0_19 : decode prog_30_method_1_code 19 = .ok (.aload_n 0, 1) := by decide +kernel
theorem dSI0_20 : decode prog_30_method_1_code 20 = .ok (.aload 4, 2) := by decide +kernel
theorem dSI0_22 : decode prog_30_method_1_code 22 = .ok (.putfield 21, 3) := by decide +kernel
theorem dSI0_25 : decode prog_30_method_1_code 25 = .ok (.aload_n 0, 1) := by decide +kernel
theorem dSI0_26 : decode prog_30_method_1_code 26 = .ok (.aload 5, 2) := by decide +kernel
theorem dSI0_28 : decode prog_30_method_1_code 28 = .ok (.putfield 24, 3) := by decide +kernel
theorem dSI0_31 : decode prog_30_method_1_code 31 = .ok (.return_, 1) := by decide +kernel
theorem pd___V : parseMethodDescriptor "()V" = some ⟨[], none⟩ := by decide +kernel
theorem pn_com_example_sunder_sunder_query_Step : plainName "com/example/sunder/sunder/query/Step" = true := by first | (simp [plainName, overriddenIn]; done) | decide +kernel
theorem ef_rmSI0 (m : MethodId) (a : Addr) (u1 : Value) (u2 : Value) (u3 : Value) (hu1 : u1.isRef = true) (hu2 : u2.isRef = true) (hu3 : u3.isRef = true) : entryFrame m #[(.ref a), (.int (0 : Int32)), u1, u2, u3, .null] 6 = mkF m 0 #[.val (.ref a), .val (.int (0 : Int32)), .val u1, .val u2, .val u3, .val .null] [] := by rcases XT.refc hu1 with rfl | ⟨_, rfl⟩ <;> rcases XT.refc hu2 with rfl | ⟨_, rfl⟩ <;> rcases XT.refc hu3 with rfl | ⟨_, rfl⟩ <;> exact own_entry rfl
set_option maxRecDepth 65536 in
set_option maxHeartbeats 40000000 in
theorem rmSI0 (l : Launch) (Z : State) (a0 : Array Value) (hw : ∀ d ∈ tables_1, d.before a0 Z = true) (a : Addr) (u1 u2 u3 : Value) (hu1 : u1.isRef = true) (hu2 : u2.isRef = true) (hu3 : u3.isRef = true) (h0 : Heap) (n0 : Nat) (Z0 : n0 ≤ h0.size) (E_a : Exa Z h0 a "com/example/sunder/sunder/query/Step") (ha : n0 ≤ a) (F_descendants : Fld Z h0 a "com/example/sunder/sunder/query/Step" "descendants" "Z" (.int (0 : Int32))) (F_kind : Fld Z h0 a "com/example/sunder/sunder/query/Step" "kind" "Lcom/example/sunder/sunder/query/Step$Kind;" .null) (F_namespaceUri : Fld Z h0 a "com/example/sunder/sunder/query/Step" "namespaceUri" "Ljava/lang/String;" .null) (F_localName : Fld Z h0 a "com/example/sunder/sunder/query/Step" "localName" "Ljava/lang/String;" .null) (F_predicates : Fld Z h0 a "com/example/sunder/sunder/query/Step" "predicates" "Ljava/util/List;" .null) :
    Pays l (⟨"com/example/sunder/sunder/query/Step", "<init>", "(ZLcom/example/sunder/sunder/query/Step$Kind;Ljava/lang/String;Ljava/lang/String;Ljava/util/List;)V"⟩ : MethodName) prog_30_method_1_code 6 none ({ frames := 2, cells := 0, slots := 0, locals := 24 } : Room) Z #[(.ref a), (.int (0 : Int32)), u1, u2, u3, .null] h0 (fun v h L => v = none ∧ Fr n0 L ∧ Keep h0 h [a] ∧ Exa Z h a "com/example/sunder/sunder/query/Step" ∧ Fld Z h a "com/example/sunder/sunder/query/Step" "namespaceUri" "Ljava/lang/String;" u2 ∧ Fld Z h a "com/example/sunder/sunder/query/Step" "localName" "Ljava/lang/String;" u3) := by
  refine Pays.of (plainFor_of_name pn_com_example_sunder_sunder_query_Step) ?_
  intro pP eE sS m below methM cC T hx hby hml hret hlk hZ hown hnm eT X
  replace hown : sS.vm.findClass "com/example/sunder/sunder/query/Step" = some m.cls := hown
  have N0 := Fr.nil n0
  have K0 := Keep.refl h0 [a]
  refine Go.cast (ef_rmSI0 m a u1 u2 u3 hu1 hu2 hu3) ?_
  refine Go.st (S' := T.setTop (mkF m 1 #[.val (.ref a), .val (.int (0 : Int32)), .val u1, .val u2, .val u3, .val .null] [(.ref a)])) (fun t kt => XS.aloadN X.here hx rfl (hb hby dSI0_0) rfl rfl kt) ?_
  refine Go.init X hx hZ rfl hown (hw _ (List.mem_of_getElem? (i := 19) rfl)) (hw _ (List.mem_of_getElem? (i := 20) rfl)) (hw _ (List.mem_of_getElem? (i := 23) rfl)) (hw _ (List.mem_of_getElem? (i := 22) rfl)) (by decide) (b := a) (argsL := []) (rest := []) (rmRC l Z a0 hw a h0 n0 Z0) eT rfl (by rw [hml]; rfl) pd___V rfl (hb hby dSI0_1) 0 (Nat.le_refl _) (by decide) (by decide) (by decide) (by decide) ?_
  intro v1 T1 L1 X1 hQ1
  obtain ⟨hv1, N1', e1⟩ := hQ1
  subst hv1
  have N1 := Fr.app N0 N1'
  show Go pP eE below _ (T1.setTop (mkF m 4 #[.val (.ref a), .val (.int (0 : Int32)), .val u1, .val u2, .val u3, .val .null] []))
  refine Go.st (S' := T1.setTop (mkF m 5 #[.val (.ref a), .val (.int (0 : Int32)), .val u1, .val u2, .val u3, .val .null] [(.ref a)])) (fun t kt => XS.aloadN X1.here hx rfl (hb hby dSI0_4) rfl rfl kt) ?_
  refine Go.st (S' := T1.setTop (mkF m 6 #[.val (.ref a), .val (.int (0 : Int32)), .val u1, .val u2, .val u3, .val .null] [(.int (0 : Int32)), (.ref a)])) (fun t kt => XS.iloadN X1.here hx rfl (hb hby dSI0_5) rfl kt) ?_
  obtain ⟨T2, h2, X2, e2, W2, st2⟩ := putF X1 hx hZ hown (host := "") (Or.inl (hw _ (List.mem_of_getElem? (i := 27) rfl))) Via.refl e1 F_descendants E_a (Or.inr ⟨(hw _ (List.mem_of_getElem? (i := 28) rfl)), rfl, hnm⟩) (hw _ (List.mem_of_getElem? (i := 5) rfl)) (ty := .boolean) (by decide) rfl rfl (g := (mkF m 6 #[.val (.ref a), .val (.int (0 : Int32)), .val u1, .val u2, .val u3, .val .null] [(.int (0 : Int32)), (.ref a)])) rfl rfl (hb hby dSI0_6)
  have F2 := Fld.same W2 F_descendants
  have N2 := Fr.snoc X2 N1 ha
  have Z2 : n0 ≤ h2.size := by rw [Wr.size W2]; exact Z0
  have K2 := Keep.wr K0 W2 (Or.inl (List.mem_of_getElem? (i := 0) rfl))
  refine Go.st (S' := T2.setTop (mkF m 9 #[.val (.ref a), .val (.int (0 : Int32)), .val u1, .val u2, .val u3, .val .null] [])) (fun t kt => st2 t kt) ?_
  refine Go.st (S' := T2.setTop (mkF m 10 #[.val (.ref a), .val (.int (0 : Int32)), .val u1, .val u2, .val u3, .val .null] [(.ref a)])) (fun t kt => XS.aloadN X2.here hx rfl (hb hby dSI0_9) rfl rfl kt) ?_
  refine Go.st (S' := T2.setTop (mkF m 11 #[.val (.ref a), .val (.int (0 : Int32)), .val u1, .val u2, .val u3, .val .null] [u1, (.ref a)])) (fun t kt => XS.aloadN X2.here hx rfl (hb hby dSI0_10) rfl hu1 kt) ?_
  have f3 := (Fld.other W2 F_kind (Or.inr (slot_ne (Or.inr (hw _ (List.mem_of_getElem? (i := 30) rfl))) (Or.inr (hw _ (List.mem_of_getElem? (i := 28) rfl))) (by decide) (t := (.object "com/example/sunder/sunder/query/Step$Kind")) (t' := .boolean) (by decide) (by decide))))
  have f4 := (Exa.wr W2 E_a)
  obtain ⟨T5, h5, X5, e5, W5, st5⟩ := putF X2 hx hZ hown (host := "") (Or.inl (hw _ (List.mem_of_getElem? (i := 29) rfl))) Via.refl e2 f3 f4 (Or.inr ⟨(hw _ (List.mem_of_getElem? (i := 30) rfl)), rfl, hnm⟩) (hw _ (List.mem_of_getElem? (i := 5) rfl)) (ty := (.object "com/example/sunder/sunder/query/Step$Kind")) (by decide) (own_nar_ref hu1) (own_fit_ref hu1) (g := (mkF m 11 #[.val (.ref a), .val (.int (0 : Int32)), .val u1, .val u2, .val u3, .val .null] [u1, (.ref a)])) rfl rfl (hb hby dSI0_11)
  have F5 := Fld.same W5 f3
  have N5 := Fr.snoc X5 N2 ha
  have Z5 : n0 ≤ h5.size := by rw [Wr.size W5]; exact Z2
  have K5 := Keep.wr K2 W5 (Or.inl (List.mem_of_getElem? (i := 0) rfl))
  refine Go.st (S' := T5.setTop (mkF m 14 #[.val (.ref a), .val (.int (0 : Int32)), .val u1, .val u2, .val u3, .val .null] [])) (fun t kt => st5 t kt) ?_
  refine Go.st (S' := T5.setTop (mkF m 15 #[.val (.ref a), .val (.int (0 : Int32)), .val u1, .val u2, .val u3, .val .null] [(.ref a)])) (fun t kt => XS.aloadN X5.here hx rfl (hb hby dSI0_14) rfl rfl kt) ?_
  refine Go.st (S' := T5.setTop (mkF m 16 #[.val (.ref a), .val (.int (0 : Int32)), .val u1, .val u2, .val u3, .val .null] [u2, (.ref a)])) (fun t kt => XS.aloadN X5.here hx rfl (hb hby dSI0_15) rfl hu2 kt) ?_
  have f6 := (Fld.other W5 (Fld.other W2 F_namespaceUri (Or.inr (slot_ne (Or.inr (hw _ (List.mem_of_getElem? (i := 32) rfl))) (Or.inr (hw _ (List.mem_of_getElem? (i := 28) rfl))) (by decide) (t := (.object "java/lang/String")) (t' := .boolean) (by decide) (by decide)))) (Or.inr (slot_ne (Or.inr (hw _ (List.mem_of_getElem? (i := 32) rfl))) (Or.inr (hw _ (List.mem_of_getElem? (i := 30) rfl))) (by decide) (t := (.object "java/lang/String")) (t' := (.object "com/example/sunder/sunder/query/Step$Kind")) (by decide) (by decide))))
  have f7 := (Exa.wr W5 f4)
  obtain ⟨T8, h8, X8, e8, W8, st8⟩ := putF X5 hx hZ hown (host := "") (Or.inl (hw _ (List.mem_of_getElem? (i := 31) rfl))) Via.refl e5 f6 f7 (Or.inr ⟨(hw _ (List.mem_of_getElem? (i := 32) rfl)), rfl, hnm⟩) (hw _ (List.mem_of_getElem? (i := 5) rfl)) (ty := (.object "java/lang/String")) (by decide) (own_nar_ref hu2) (own_fit_ref hu2) (g := (mkF m 16 #[.val (.ref a), .val (.int (0 : Int32)), .val u1, .val u2, .val u3, .val .null] [u2, (.ref a)])) rfl rfl (hb hby dSI0_16)
  have F8 := Fld.same W8 f6
  have N8 := Fr.snoc X8 N5 ha
  have Z8 : n0 ≤ h8.size := by rw [Wr.size W8]; exact Z5
  have K8 := Keep.wr K5 W8 (Or.inl (List.mem_of_getElem? (i := 0) rfl))
  refine Go.st (S' := T8.setTop (mkF m 19 #[.val (.ref a), .val (.int (0 : Int32)), .val u1, .val u2, .val u3, .val .null] [])) (fun t kt => st8 t kt) ?_
  refine Go.st (S' := T8.setTop (mkF m 20 #[.val (.ref a), .val (.int (0 : Int32)), .val u1, .val u2, .val u3, .val .null] [(.ref a)])) (fun t kt => XS.aloadN X8.here hx rfl (hb hby dSI0_19) rfl rfl kt) ?_
  refine Go.st (S' := T8.setTop (mkF m 22 #[.val (.ref a), .val (.int (0 : Int32)), .val u1, .val u2, .val u3, .val .null] [u3, (.ref a)])) (fun t kt => XS.aload X8.here hx rfl (hb hby dSI0_20) rfl hu3 kt) ?_
  have f9 := (Fld.other W8 (Fld.other W5 (Fld.other W2 F_localName (Or.inr (slot_ne (Or.inr (hw _ (List.mem_of_getElem? (i := 34) rfl))) (Or.inr (hw _ (List.mem_of_getElem? (i := 28) rfl))) (by decide) (t := (.object "java/lang/String")) (t' := .boolean) (by decide) (by decide)))) (Or.inr (slot_ne (Or.inr (hw _ (List.mem_of_getElem? (i := 34) rfl))) (Or.inr (hw _ (List.mem_of_getElem? (i := 30) rfl))) (by decide) (t := (.object "java/lang/String")) (t' := (.object "com/example/sunder/sunder/query/Step$Kind")) (by decide) (by decide)))) (Or.inr (slot_ne (Or.inr (hw _ (List.mem_of_getElem? (i := 34) rfl))) (Or.inr (hw _ (List.mem_of_getElem? (i := 32) rfl))) (by decide) (t := (.object "java/lang/String")) (t' := (.object "java/lang/String")) (by decide) (by decide))))
  have f10 := (Exa.wr W8 f7)
  obtain ⟨T11, h11, X11, e11, W11, st11⟩ := putF X8 hx hZ hown (host := "") (Or.inl (hw _ (List.mem_of_getElem? (i := 33) rfl))) Via.refl e8 f9 f10 (Or.inr ⟨(hw _ (List.mem_of_getElem? (i := 34) rfl)), rfl, hnm⟩) (hw _ (List.mem_of_getElem? (i := 5) rfl)) (ty := (.object "java/lang/String")) (by decide) (own_nar_ref hu3) (own_fit_ref hu3) (g := (mkF m 22 #[.val (.ref a), .val (.int (0 : Int32)), .val u1, .val u2, .val u3, .val .null] [u3, (.ref a)])) rfl rfl (hb hby dSI0_22)
  have F11 := Fld.same W11 f9
  have N11 := Fr.snoc X11 N8 ha
  have Z11 : n0 ≤ h11.size := by rw [Wr.size W11]; exact Z8
  have K11 := Keep.wr K8 W11 (Or.inl (List.mem_of_getElem? (i := 0) rfl))
  refine Go.st (S' := T11.setTop (mkF m 25 #[.val (.ref a), .val (.int (0 : Int32)), .val u1, .val u2, .val u3, .val .null] [])) (fun t kt => st11 t kt) ?_
  refine Go.st (S' := T11.setTop (mkF m 26 #[.val (.ref a), .val (.int (0 : Int32)), .val u1, .val u2, .val u3, .val .null] [(.ref a)])) (fun t kt => XS.aloadN X11.here hx rfl (hb hby dSI0_25) rfl rfl kt) ?_
  refine Go.st (S' := T11.setTop (mkF m 28 #[.val (.ref a), .val (.int (0 : Int32)), .val u1, .val u2, .val u3, .val .null] [.null, (.ref a)])) (fun t kt => XS.aload X11.here hx rfl (hb hby dSI0_26) rfl rfl kt) ?_
  have f12 := (Fld.other W11 (Fld.other W8 (Fld.other W5 (Fld.other W2 F_predicates (Or.inr (slot_ne (Or.inr (hw _ (List.mem_of_getElem? (i := 36) rfl))) (Or.inr (hw _ (List.mem_of_getElem? (i := 28) rfl))) (by decide) (t := (.object "java/util/List")) (t' := .boolean) (by decide) (by decide)))) (Or.inr (slot_ne (Or.inr (hw _ (List.mem_of_getElem? (i := 36) rfl))) (Or.inr (hw _ (List.mem_of_getElem? (i := 30) rfl))) (by decide) (t := (.object "java/util/List")) (t' := (.object "com/example/sunder/sunder/query/Step$Kind")) (by decide) (by decide)))) (Or.inr (slot_ne (Or.inr (hw _ (List.mem_of_getElem? (i := 36) rfl))) (Or.inr (hw _ (List.mem_of_getElem? (i := 32) rfl))) (by decide) (t := (.object "java/util/List")) (t' := (.object "java/lang/String")) (by decide) (by decide)))) (Or.inr (slot_ne (Or.inr (hw _ (List.mem_of_getElem? (i := 36) rfl))) (Or.inr (hw _ (List.mem_of_getElem? (i := 34) rfl))) (by decide) (t := (.object "java/util/List")) (t' := (.object "java/lang/String")) (by decide) (by decide))))
  have f13 := (Exa.wr W11 f10)
  obtain ⟨T14, h14, X14, e14, W14, st14⟩ := putF X11 hx hZ hown (host := "") (Or.inl (hw _ (List.mem_of_getElem? (i := 35) rfl))) Via.refl e11 f12 f13 (Or.inr ⟨(hw _ (List.mem_of_getElem? (i := 36) rfl)), rfl, hnm⟩) (hw _ (List.mem_of_getElem? (i := 5) rfl)) (ty := (.object "java/util/List")) (by decide) rfl rfl (g := (mkF m 28 #[.val (.ref a), .val (.int (0 : Int32)), .val u1, .val u2, .val u3, .val .null] [.null, (.ref a)])) rfl rfl (hb hby dSI0_28)
  have F14 := Fld.same W14 f12
  have N14 := Fr.snoc X14 N11 ha
  have Z14 : n0 ≤ h14.size := by rw [Wr.size W14]; exact Z11
  have K14 := Keep.wr K11 W14 (Or.inl (List.mem_of_getElem? (i := 0) rfl))
  refine Go.st (S' := T14.setTop (mkF m 31 #[.val (.ref a), .val (.int (0 : Int32)), .val u1, .val u2, .val u3, .val .null] [])) (fun t kt => st14 t kt) ?_
  have f15 := (Exa.wr W14 f13)
  have f16 := (Fld.other W14 (Fld.other W11 F8 (Or.inr (slot_ne (Or.inr (hw _ (List.mem_of_getElem? (i := 32) rfl))) (Or.inr (hw _ (List.mem_of_getElem? (i := 34) rfl))) (by decide) (t := (.object "java/lang/String")) (t' := (.object "java/lang/String")) (by decide) (by decide)))) (Or.inr (slot_ne (Or.inr (hw _ (List.mem_of_getElem? (i := 32) rfl))) (Or.inr (hw _ (List.mem_of_getElem? (i := 36) rfl))) (by decide) (t := (.object "java/lang/String")) (t' := (.object "java/util/List")) (by decide) (by decide))))
  have f17 := (Fld.other W14 F11 (Or.inr (slot_ne (Or.inr (hw _ (List.mem_of_getElem? (i := 34) rfl))) (Or.inr (hw _ (List.mem_of_getElem? (i := 36) rfl))) (by decide) (t := (.object "java/lang/String")) (t' := (.object "java/util/List")) (by decide) (by decide))))
  exact ret_v X14 hx hlk hret (hb hby dSI0_31) (by decide) (by decide) (by rw [e14]; exact ⟨rfl, N14, K14, f15, f16, f17⟩)
theorem dSI1_0 : decode prog_30_method_1_code 0 = .ok (.aload_n 0, 1) := by decide +kernel
theorem dSI1_1 : decode prog_30_method_1_code 1 = .ok (.invokespecial 1, 3) := by decide +kernel
theorem dSI1_4 : decode prog_30_method_1_code 4 = .ok (.aload_n 0, 1) := by decide +kernel
theorem dSI1_5 : decode prog_30_method_1_code 5 = .ok (.iload_n 1, 1) := by decide +kernel
theorem dSI1_6 : decode prog_30_method_1_code 6 = .ok (.putfield 7, 3) := by decide +kernel
theorem dSI1_9 : decode prog_30_method_1_code 9 = .ok (.aload_n 0, 1) := by decide +kernel
theorem dSI1_10 : decode prog_30_method_1_code 10 = .ok (.aload_n 2, 1) := by decide +kernel
theorem dSI1_11 : decode prog_30_method_1_code 11 = .ok (.putfield 13, 3) := by decide +kernel
theorem dSI1_14 : decode prog_30_method_1_code 14 = .ok (.aload_n 0, 1) := by decide +kernel
theorem dSI1_15 : decode prog_30_method_1_code 15 = .ok (.aload_n 3, 1) := by decide +kernel
theorem dSI1_16 : decode prog_30_method_1_code 16 = .ok (.putfield 17, 3) := by decide +kernel
theorem dSI1_19 : decode prog_30_method_1_code 19 = .ok (.aload_n 0, 1) := by decide +kernel
theorem dSI1_20 : decode prog_30_method_1_code 20 = .ok (.aload 4, 2) := by decide +kernel
theorem dSI1_22 : decode prog_30_method_1_code 22 = .ok (.putfield 21, 3) := by decide +kernel
theorem dSI1_25 : decode prog_30_method_1_code 25 = .ok (.aload_n 0, 1) := by decide +kernel
theorem dSI1_26 : decode prog_30_method_1_code 26 = .ok (.aload 5, 2) := by decide +kernel
theorem dSI1_28 : decode prog_30_method_1_code 28 = .ok (.putfield 24, 3) := by decide +kernel
theorem dSI1_31 : decode prog_30_method_1_code 31 = .ok (.return_, 1) := by decide +kernel
theorem ef_rmSI1 (m : MethodId) (a : Addr) (u1 : Value) (u2 : Value) (u3 : Value) (hu1 : u1.isRef = true) (hu2 : u2.isRef = true) (hu3 : u3.isRef = true) : entryFrame m #[(.ref a), (.int (1 : Int32)), u1, u2, u3, .null] 6 = mkF m 0 #[.val (.ref a), .val (.int (1 : Int32)), .val u1, .val u2, .val u3, .val .null] [] := by rcases XT.refc hu1 with rfl | ⟨_, rfl⟩ <;> rcases XT.refc hu2 with rfl | ⟨_, rfl⟩ <;> rcases XT.refc hu3 with rfl | ⟨_, rfl⟩ <;> exact own_entry rfl
set_option maxRecDepth 65536 in
set_option maxHeartbeats 40000000 in
theorem rmSI1 (l : Launch) (Z : State) (a0 : Array Value) (hw : ∀ d ∈ tables_1, d.before a0 Z = true) (a : Addr) (u1 u2 u3 : Value) (hu1 : u1.isRef = true) (hu2 : u2.isRef = true) (hu3 : u3.isRef = true) (h0 : Heap) (n0 : Nat) (Z0 : n0 ≤ h0.size) (E_a : Exa Z h0 a "com/example/sunder/sunder/query/Step") (ha : n0 ≤ a) (F_descendants : Fld Z h0 a "com/example/sunder/sunder/query/Step" "descendants" "Z" (.int (0 : Int32))) (F_kind : Fld Z h0 a "com/example/sunder/sunder/query/Step" "kind" "Lcom/example/sunder/sunder/query/Step$Kind;" .null) (F_namespaceUri : Fld Z h0 a "com/example/sunder/sunder/query/Step" "namespaceUri" "Ljava/lang/String;" .null) (F_localName : Fld Z h0 a "com/example/sunder/sunder/query/Step" "localName" "Ljava/lang/String;" .null) (F_predicates : Fld Z h0 a "com/example/sunder/sunder/query/Step" "predicates" "Ljava/util/List;" .null) :
    Pays l (⟨"com/example/sunder/sunder/query/Step", "<init>", "(ZLcom/example/sunder/sunder/query/Step$Kind;Ljava/lang/String;Ljava/lang/String;Ljava/util/List;)V"⟩ : MethodName) prog_30_method_1_code 6 none ({ frames := 2, cells := 0, slots := 0, locals := 24 } : Room) Z #[(.ref a), (.int (1 : Int32)), u1, u2, u3, .null] h0 (fun v h L => v = none ∧ Fr n0 L ∧ Keep h0 h [a] ∧ Exa Z h a "com/example/sunder/sunder/query/Step" ∧ Fld Z h a "com/example/sunder/sunder/query/Step" "namespaceUri" "Ljava/lang/String;" u2 ∧ Fld Z h a "com/example/sunder/sunder/query/Step" "localName" "Ljava/lang/String;" u3) := by
  refine Pays.of (plainFor_of_name pn_com_example_sunder_sunder_query_Step) ?_
  intro pP eE sS m below methM cC T hx hby hml hret hlk hZ hown hnm eT X
  replace hown : sS.vm.findClass "com/example/sunder/sunder/query/Step" = some m.cls := hown
  have N0 := Fr.nil n0
  have K0 := Keep.refl h0 [a]
  refine Go.cast (ef_rmSI1 m a u1 u2 u3 hu1 hu2 hu3) ?_
  refine Go.st (S' := T.setTop (mkF m 1 #[.val (.ref a), .val (.int (1 : Int32)), .val u1, .val u2, .val u3, .val .null] [(.ref a)])) (fun t kt => XS.aloadN X.here hx rfl (hb hby dSI1_0) rfl rfl kt) ?_
  refine Go.init X hx hZ rfl hown (hw _ (List.mem_of_getElem? (i := 19) rfl)) (hw _ (List.mem_of_getElem? (i := 20) rfl)) (hw _ (List.mem_of_getElem? (i := 23) rfl)) (hw _ (List.mem_of_getElem? (i := 22) rfl)) (by decide) (b := a) (argsL := []) (rest := []) (rmRC l Z a0 hw a h0 n0 Z0) eT rfl (by rw [hml]; rfl) pd___V rfl (hb hby dSI1_1) 0 (Nat.le_refl _) (by decide) (by decide) (by decide) (by decide) ?_
  intro v1 T1 L1 X1 hQ1
  obtain ⟨hv1, N1', e1⟩ := hQ1
  subst hv1
  have N1 := Fr.app N0 N1'
  show Go pP eE below _ (T1.setTop (mkF m 4 #[.val (.ref a), .val (.int (1 : Int32)), .val u1, .val u2, .val u3, .val .null] []))
  refine Go.st (S' := T1.setTop (mkF m 5 #[.val (.ref a), .val (.int (1 : Int32)), .val u1, .val u2, .val u3, .val .null] [(.ref a)])) (fun t kt => XS.aloadN X1.here hx rfl (hb hby dSI1_4) rfl rfl kt) ?_
  refine Go.st (S' := T1.setTop (mkF m 6 #[.val (.ref a), .val (.int (1 : Int32)), .val u1, .val u2, .val u3, .val .null] [(.int (1 : Int32)), (.ref a)])) (fun t kt => XS.iloadN X1.here hx rfl (hb hby dSI1_5) rfl kt) ?_
  obtain ⟨T2, h2, X2, e2, W2, st2⟩ := putF X1 hx hZ hown (host := "") (Or.inl (hw _ (List.mem_of_getElem? (i := 27) rfl))) Via.refl e1 F_descendants E_a (Or.inr ⟨(hw _ (List.mem_of_getElem? (i := 28) rfl)), rfl, hnm⟩) (hw _ (List.mem_of_getElem? (i := 5) rfl)) (ty := .boolean) (by decide) rfl rfl (g := (mkF m 6 #[.val (.ref a), .val (.int (1 : Int32)), .val u1, .val u2, .val u3, .val .null] [(.int (1 : Int32)), (.ref a)])) rfl rfl (hb hby dSI1_6)
  have F2 := Fld.same W2 F_descendants
  have N2 := Fr.snoc X2 N1 ha
  have Z2 : n0 ≤ h2.size := by rw [Wr.size W2]; exact Z0
  have K2 := Keep.wr K0 W2 (Or.inl (List.mem_of_getElem? (i := 0) rfl))
  refine Go.st (S' := T2.setTop (mkF m 9 #[.val (.ref a), .val (.int (1 : Int32)), .val u1, .val u2, .val u3, .val .null] [])) (fun t kt => st2 t kt) ?_
  refine Go.st (S' := T2.setTop (mkF m 10 #[.val (.ref a), .val (.int (1 : Int32)), .val u1, .val u2, .val u3, .val .null] [(.ref a)])) (fun t kt => XS.aloadN X2.here hx rfl (hb hby dSI1_9) rfl rfl kt) ?_
  refine Go.st (S' := T2.setTop (mkF m 11 #[.val (.ref a), .val (.int (1 : Int32)), .val u1, .val u2, .val u3, .val .null] [u1, (.ref a)])) (fun t kt => XS.aloadN X2.here hx rfl (hb hby dSI1_10) rfl hu1 kt) ?_
  have f3 := (Fld.other W2 F_kind (Or.inr (slot_ne (Or.inr (hw _ (List.mem_of_getElem? (i := 30) rfl))) (Or.inr (hw _ (List.mem_of_getElem? (i := 28) rfl))) (by decide) (t := (.object "com/example/sunder/sunder/query/Step$Kind")) (t' := .boolean) (by decide) (by decide))))
  have f4 := (Exa.wr W2 E_a)
  obtain ⟨T5, h5, X5, e5, W5, st5⟩ := putF X2 hx hZ hown (host := "") (Or.inl (hw _ (List.mem_of_getElem? (i := 29) rfl))) Via.refl e2 f3 f4 (Or.inr ⟨(hw _ (List.mem_of_getElem? (i := 30) rfl)), rfl, hnm⟩) (hw _ (List.mem_of_getElem? (i := 5) rfl)) (ty := (.object "com/example/sunder/sunder/query/Step$Kind")) (by decide) (own_nar_ref hu1) (own_fit_ref hu1) (g := (mkF m 11 #[.val (.ref a), .val (.int (1 : Int32)), .val u1, .val u2, .val u3, .val .null] [u1, (.ref a)])) rfl rfl (hb hby dSI1_11)
  have F5 := Fld.same W5 f3
  have N5 := Fr.snoc X5 N2 ha
  have Z5 : n0 ≤ h5.size := by rw [Wr.size W5]; exact Z2
  have K5 := Keep.wr K2 W5 (Or.inl (List.mem_of_getElem? (i := 0) rfl))
  refine Go.st (S' := T5.setTop (mkF m 14 #[.val (.ref a), .val (.int (1 : Int32)), .val u1, .val u2, .val u3, .val .null] [])) (fun t kt => st5 t kt) ?_
  refine Go.st (S' := T5.setTop (mkF m 15 #[.val (.ref a), .val (.int (1 : Int32)), .val u1, .val u2, .val u3, .val .null] [(.ref a)])) (fun t kt => XS.aloadN X5.here hx rfl (hb hby dSI1_14) rfl rfl kt) ?_
  refine Go.st (S' := T5.setTop (mkF m 16 #[.val (.ref a), .val (.int (1 : Int32)), .val u1, .val u2, .val u3, .val .null] [u2, (.ref a)])) (fun t kt => XS.aloadN X5.here hx rfl (hb hby dSI1_15) rfl hu2 kt) ?_
  have f6 := (Fld.other W5 (Fld.other W2 F_namespaceUri (Or.inr (slot_ne (Or.inr (hw _ (List.mem_of_getElem? (i := 32) rfl))) (Or.inr (hw _ (List.mem_of_getElem? (i := 28) rfl))) (by decide) (t := (.object "java/lang/String")) (t' := .boolean) (by decide) (by decide)))) (Or.inr (slot_ne (Or.inr (hw _ (List.mem_of_getElem? (i := 32) rfl))) (Or.inr (hw _ (List.mem_of_getElem? (i := 30) rfl))) (by decide) (t := (.object "java/lang/String")) (t' := (.object "com/example/sunder/sunder/query/Step$Kind")) (by decide) (by decide))))
  have f7 := (Exa.wr W5 f4)
  obtain ⟨T8, h8, X8, e8, W8, st8⟩ := putF X5 hx hZ hown (host := "") (Or.inl (hw _ (List.mem_of_getElem? (i := 31) rfl))) Via.refl e5 f6 f7 (Or.inr ⟨(hw _ (List.mem_of_getElem? (i := 32) rfl)), rfl, hnm⟩) (hw _ (List.mem_of_getElem? (i := 5) rfl)) (ty := (.object "java/lang/String")) (by decide) (own_nar_ref hu2) (own_fit_ref hu2) (g := (mkF m 16 #[.val (.ref a), .val (.int (1 : Int32)), .val u1, .val u2, .val u3, .val .null] [u2, (.ref a)])) rfl rfl (hb hby dSI1_16)
  have F8 := Fld.same W8 f6
  have N8 := Fr.snoc X8 N5 ha
  have Z8 : n0 ≤ h8.size := by rw [Wr.size W8]; exact Z5
  have K8 := Keep.wr K5 W8 (Or.inl (List.mem_of_getElem? (i := 0) rfl))
  refine Go.st (S' := T8.setTop (mkF m 19 #[.val (.ref a), .val (.int (1 : Int32)), .val u1, .val u2, .val u3, .val .null] [])) (fun t kt => st8 t kt) ?_
  refine Go.st (S' := T8.setTop (mkF m 20 #[.val (.ref a), .val (.int (1 : Int32)), .val u1, .val u2, .val u3, .val .null] [(.ref a)])) (fun t kt => XS.aloadN X8.here hx rfl (hb hby dSI1_19) rfl rfl kt) ?_
  refine Go.st (S' := T8.setTop (mkF m 22 #[.val (.ref a), .val (.int (1 : Int32)), .val u1, .val u2, .val u3, .val .null] [u3, (.ref a)])) (fun t kt => XS.aload X8.here hx rfl (hb hby dSI1_20) rfl hu3 kt) ?_
  have f9 := (Fld.other W8 (Fld.other W5 (Fld.other W2 F_localName (Or.inr (slot_ne (Or.inr (hw _ (List.mem_of_getElem? (i := 34) rfl))) (Or.inr (hw _ (List.mem_of_getElem? (i := 28) rfl))) (by decide) (t := (.object "java/lang/String")) (t' := .boolean) (by decide) (by decide)))) (Or.inr (slot_ne (Or.inr (hw _ (List.mem_of_getElem? (i := 34) rfl))) (Or.inr (hw _ (List.mem_of_getElem? (i := 30) rfl))) (by decide) (t := (.object "java/lang/String")) (t' := (.object "com/example/sunder/sunder/query/Step$Kind")) (by decide) (by decide)))) (Or.inr (slot_ne (Or.inr (hw _ (List.mem_of_getElem? (i := 34) rfl))) (Or.inr (hw _ (List.mem_of_getElem? (i := 32) rfl))) (by decide) (t := (.object "java/lang/String")) (t' := (.object "java/lang/String")) (by decide) (by decide))))
  have f10 := (Exa.wr W8 f7)
  obtain ⟨T11, h11, X11, e11, W11, st11⟩ := putF X8 hx hZ hown (host := "") (Or.inl (hw _ (List.mem_of_getElem? (i := 33) rfl))) Via.refl e8 f9 f10 (Or.inr ⟨(hw _ (List.mem_of_getElem? (i := 34) rfl)), rfl, hnm⟩) (hw _ (List.mem_of_getElem? (i := 5) rfl)) (ty := (.object "java/lang/String")) (by decide) (own_nar_ref hu3) (own_fit_ref hu3) (g := (mkF m 22 #[.val (.ref a), .val (.int (1 : Int32)), .val u1, .val u2, .val u3, .val .null] [u3, (.ref a)])) rfl rfl (hb hby dSI1_22)
  have F11 := Fld.same W11 f9
  have N11 := Fr.snoc X11 N8 ha
  have Z11 : n0 ≤ h11.size := by rw [Wr.size W11]; exact Z8
  have K11 := Keep.wr K8 W11 (Or.inl (List.mem_of_getElem? (i := 0) rfl))
  refine Go.st (S' := T11.setTop (mkF m 25 #[.val (.ref a), .val (.int (1 : Int32)), .val u1, .val u2, .val u3, .val .null] [])) (fun t kt => st11 t kt) ?_
  refine Go.st (S' := T11.setTop (mkF m 26 #[.val (.ref a), .val (.int (1 : Int32)), .val u1, .val u2, .val u3, .val .null] [(.ref a)])) (fun t kt => XS.aloadN X11.here hx rfl (hb hby dSI1_25) rfl rfl kt) ?_
  refine Go.st (S' := T11.setTop (mkF m 28 #[.val (.ref a), .val (.int (1 : Int32)), .val u1, .val u2, .val u3, .val .null] [.null, (.ref a)])) (fun t kt => XS.aload X11.here hx rfl (hb hby dSI1_26) rfl rfl kt) ?_
  have f12 := (Fld.other W11 (Fld.other W8 (Fld.other W5 (Fld.other W2 F_predicates (Or.inr (slot_ne (Or.inr (hw _ (List.mem_of_getElem? (i := 36) rfl))) (Or.inr (hw _ (List.mem_of_getElem? (i := 28) rfl))) (by decide) (t := (.object "java/util/List")) (t' := .boolean) (by decide) (by decide)))) (Or.inr (slot_ne (Or.inr (hw _ (List.mem_of_getElem? (i := 36) rfl))) (Or.inr (hw _ (List.mem_of_getElem? (i := 30) rfl))) (by decide) (t := (.object "java/util/List")) (t' := (.object "com/example/sunder/sunder/query/Step$Kind")) (by decide) (by decide)))) (Or.inr (slot_ne (Or.inr (hw _ (List.mem_of_getElem? (i := 36) rfl))) (Or.inr (hw _ (List.mem_of_getElem? (i := 32) rfl))) (by decide) (t := (.object "java/util/List")) (t' := (.object "java/lang/String")) (by decide) (by decide)))) (Or.inr (slot_ne (Or.inr (hw _ (List.mem_of_getElem? (i := 36) rfl))) (Or.inr (hw _ (List.mem_of_getElem? (i := 34) rfl))) (by decide) (t := (.object "java/util/List")) (t' := (.object "java/lang/String")) (by decide) (by decide))))
  have f13 := (Exa.wr W11 f10)
  obtain ⟨T14, h14, X14, e14, W14, st14⟩ := putF X11 hx hZ hown (host := "") (Or.inl (hw _ (List.mem_of_getElem? (i := 35) rfl))) Via.refl e11 f12 f13 (Or.inr ⟨(hw _ (List.mem_of_getElem? (i := 36) rfl)), rfl, hnm⟩) (hw _ (List.mem_of_getElem? (i := 5) rfl)) (ty := (.object "java/util/List")) (by decide) rfl rfl (g := (mkF m 28 #[.val (.ref a), .val (.int (1 : Int32)), .val u1, .val u2, .val u3, .val .null] [.null, (.ref a)])) rfl rfl (hb hby dSI1_28)
  have F14 := Fld.same W14 f12
  have N14 := Fr.snoc X14 N11 ha
  have Z14 : n0 ≤ h14.size := by rw [Wr.size W14]; exact Z11
  have K14 := Keep.wr K11 W14 (Or.inl (List.mem_of_getElem? (i := 0) rfl))
  refine Go.st (S' := T14.setTop (mkF m 31 #[.val (.ref a), .val (.int (1 : Int32)), .val u1, .val u2, .val u3, .val .null] [])) (fun t kt => st14 t kt) ?_
  have f15 := (Exa.wr W14 f13)
  have f16 := (Fld.other W14 (Fld.other W11 F8 (Or.inr (slot_ne (Or.inr (hw _ (List.mem_of_getElem? (i := 32) rfl))) (Or.inr (hw _ (List.mem_of_getElem? (i := 34) rfl))) (by decide) (t := (.object "java/lang/String")) (t' := (.object "java/lang/String")) (by decide) (by decide)))) (Or.inr (slot_ne (Or.inr (hw _ (List.mem_of_getElem? (i := 32) rfl))) (Or.inr (hw _ (List.mem_of_getElem? (i := 36) rfl))) (by decide) (t := (.object "java/lang/String")) (t' := (.object "java/util/List")) (by decide) (by decide))))
  have f17 := (Fld.other W14 F11 (Or.inr (slot_ne (Or.inr (hw _ (List.mem_of_getElem? (i := 34) rfl))) (Or.inr (hw _ (List.mem_of_getElem? (i := 36) rfl))) (by decide) (t := (.object "java/lang/String")) (t' := (.object "java/util/List")) (by decide) (by decide))))
  exact ret_v X14 hx hlk hret (hb hby dSI1_31) (by decide) (by decide) (by rw [e14]; exact ⟨rfl, N14, K14, f15, f16, f17⟩)
theorem dCV_0 : decode method_5_code 0 = .ok (.iload_n 0, 1) := by decide +kernel
theorem dCV_1 : decode method_5_code 1 = .ok (.ifCond .ne 5, 3) := by decide +kernel
theorem dCV_4 : decode method_5_code 4 = .ok (.iconst 1, 1) := by decide +kernel
theorem dCV_5 : decode method_5_code 5 = .ok (.ireturn, 1) := by decide +kernel
theorem dCV_6 : decode method_5_code 6 = .ok (.iload_n 3, 1) := by decide +kernel
theorem dCV_7 : decode method_5_code 7 = .ok (.ifCond .ne 5, 3) := by decide +kernel
theorem dCV_10 : decode method_5_code 10 = .ok (.iconst 0, 1) := by decide +kernel
theorem dCV_11 : decode method_5_code 11 = .ok (.ireturn, 1) := by decide +kernel
theorem dCV_12 : decode method_5_code 12 = .ok (.iload_n 0, 1) := by decide +kernel
theorem dCV_13 : decode method_5_code 13 = .ok (.iload_n 3, 1) := by decide +kernel
theorem dCV_14 : decode method_5_code 14 = .ok (.if_icmp .eq 5, 3) := by decide +kernel
theorem dCV_17 : decode method_5_code 17 = .ok (.iconst 0, 1) := by decide +kernel
theorem dCV_18 : decode method_5_code 18 = .ok (.ireturn, 1) := by decide +kernel
theorem dCV_19 : decode method_5_code 19 = .ok (.iload_n 0, 1) := by decide +kernel
theorem dCV_20 : decode method_5_code 20 = .ok (.iconst 2, 1) := by decide +kernel
theorem dCV_21 : decode method_5_code 21 = .ok (.if_icmp .lt 11, 3) := by decide +kernel
theorem dCV_24 : decode method_5_code 24 = .ok (.iload_n 1, 1) := by decide +kernel
theorem dCV_25 : decode method_5_code 25 = .ok (.iload 4, 2) := by decide +kernel
theorem dCV_27 : decode method_5_code 27 = .ok (.if_icmp .eq 5, 3) := by decide +kernel
theorem dCV_30 : decode method_5_code 30 = .ok (.iconst 0, 1) := by decide +kernel
theorem dCV_31 : decode method_5_code 31 = .ok (.ireturn, 1) := by decide +kernel
theorem dCV_32 : decode method_5_code 32 = .ok (.iload_n 0, 1) := by decide +kernel
theorem dCV_33 : decode method_5_code 33 = .ok (.iconst 3, 1) := by decide +kernel
theorem dCV_34 : decode method_5_code 34 = .ok (.if_icmp .ne 11, 3) := by decide +kernel
theorem dCV_37 : decode method_5_code 37 = .ok (.iload_n 2, 1) := by decide +kernel
theorem dCV_38 : decode method_5_code 38 = .ok (.iload 5, 2) := by decide +kernel
theorem dCV_40 : decode method_5_code 40 = .ok (.if_icmp .eq 5, 3) := by decide +kernel
theorem dCV_43 : decode method_5_code 43 = .ok (.iconst 0, 1) := by decide +kernel
theorem dCV_44 : decode method_5_code 44 = .ok (.ireturn, 1) := by decide +kernel
theorem dCV_45 : decode method_5_code 45 = .ok (.iconst 1, 1) := by decide +kernel
theorem dCV_46 : decode method_5_code 46 = .ok (.ireturn, 1) := by decide +kernel
theorem ef_rmCV (m : MethodId) (m_ : Int32) (x0 : Int32) (x1 : Int32) (n_ : Int32) (y0 : Int32) (y1 : Int32) : entryFrame m #[(.int m_), (.int x0), (.int x1), (.int n_), (.int y0), (.int y1)] 6 = mkF m 0 #[.val (.int m_), .val (.int x0), .val (.int x1), .val (.int n_), .val (.int y0), .val (.int y1)] [] := by first | exact own_entry rfl | (simp [entryFrame, mkF, argsToLocals, Value.category]; done) | rfl
set_option maxRecDepth 65536 in
set_option maxHeartbeats 40000000 in
theorem rmCV (l : Launch) (Z : State) (a0 : Array Value) (hw : ∀ d ∈ tables_1, d.before a0 Z = true) (m_ x0 x1 n_ y0 y1 : Int32) (h0 : Heap) (n0 : Nat) (Z0 : n0 ≤ h0.size) :
    Pays l (⟨"com/example/sunder/sunder/query/StepAdmitsEveryPinLaw", "covers", "(IIIIII)Z"⟩ : MethodName) method_5_code 6 (some .boolean) ({ frames := 0, cells := 0, slots := 0, locals := 0 } : Room) Z #[(.int m_), (.int x0), (.int x1), (.int n_), (.int y0), (.int y1)] h0 (fun v h L => v = some (.int (own_cov m_ x0 x1 n_ y0 y1)) ∧ Fr n0 L ∧ h = h0) := by
  refine Pays.of (plainFor_of_name pn_com_example_sunder_sunder_query_StepAdmitsEveryPinLaw) ?_
  intro pP eE sS m below methM cC T hx hby hml hret hlk hZ hown hnm eT X
  replace hown : sS.vm.findClass "com/example/sunder/sunder/query/StepAdmitsEveryPinLaw" = some m.cls := hown
  have N0 := Fr.nil n0
  refine Go.cast (ef_rmCV m m_ x0 x1 n_ y0 y1) ?_
  refine Go.st (S' := T.setTop (mkF m 1 #[.val (.int m_), .val (.int x0), .val (.int x1), .val (.int n_), .val (.int y0), .val (.int y1)] [(.int m_)])) (fun t kt => XS.iloadN X.here hx rfl (hb hby dCV_0) rfl kt) ?_
  by_cases hc1_1 : m_ = 0
  · refine Go.st (S' := T.setTop (mkF m 4 #[.val (.int m_), .val (.int x0), .val (.int x1), .val (.int n_), .val (.int y0), .val (.int y1)] [])) (fun t kt => XS.ifNo X.here hx rfl (hb hby dCV_1) rfl (XT.i0_ne_f hc1_1) kt) ?_
    refine Go.st (S' := T.setTop (mkF m 5 #[.val (.int m_), .val (.int x0), .val (.int x1), .val (.int n_), .val (.int y0), .val (.int y1)] [(.int (1 : Int32))])) (fun t kt => XS.iconst X.here hx rfl (hb hby dCV_4) kt) ?_
    exact ret_b X hx hlk hret (hb hby dCV_5) (by decide) (by decide) (⟨by show some (Value.int (1 : Int32)) = _; rw [own_cov, if_pos hc1_1], N0, eT⟩)
  · refine Go.st (S' := T.setTop (mkF m 6 #[.val (.int m_), .val (.int x0), .val (.int x1), .val (.int n_), .val (.int y0), .val (.int y1)] [])) (fun t kt => XS.ifYes X.here hx rfl (pc0 := 1) (pc' := 6) rfl (hb hby dCV_1) rfl (XT.i0_ne_t hc1_1) (by decide) (by decide) kt) ?_
    refine Go.st (S' := T.setTop (mkF m 7 #[.val (.int m_), .val (.int x0), .val (.int x1), .val (.int n_), .val (.int y0), .val (.int y1)] [(.int n_)])) (fun t kt => XS.iloadN X.here hx rfl (hb hby dCV_6) rfl kt) ?_
    by_cases hc7_2 : n_ = 0
    · refine Go.st (S' := T.setTop (mkF m 10 #[.val (.int m_), .val (.int x0), .val (.int x1), .val (.int n_), .val (.int y0), .val (.int y1)] [])) (fun t kt => XS.ifNo X.here hx rfl (hb hby dCV_7) rfl (XT.i0_ne_f hc7_2) kt) ?_
      refine Go.st (S' := T.setTop (mkF m 11 #[.val (.int m_), .val (.int x0), .val (.int x1), .val (.int n_), .val (.int y0), .val (.int y1)] [(.int (0 : Int32))])) (fun t kt => XS.iconst X.here hx rfl (hb hby dCV_10) kt) ?_
      exact ret_b X hx hlk hret (hb hby dCV_11) (by decide) (by decide) (⟨by show some (Value.int (0 : Int32)) = _; rw [own_cov, if_neg hc1_1, if_pos hc7_2], N0, eT⟩)
    · refine Go.st (S' := T.setTop (mkF m 12 #[.val (.int m_), .val (.int x0), .val (.int x1), .val (.int n_), .val (.int y0), .val (.int y1)] [])) (fun t kt => XS.ifYes X.here hx rfl (pc0 := 7) (pc' := 12) rfl (hb hby dCV_7) rfl (XT.i0_ne_t hc7_2) (by decide) (by decide) kt) ?_
      refine Go.st (S' := T.setTop (mkF m 13 #[.val (.int m_), .val (.int x0), .val (.int x1), .val (.int n_), .val (.int y0), .val (.int y1)] [(.int m_)])) (fun t kt => XS.iloadN X.here hx rfl (hb hby dCV_12) rfl kt) ?_
      refine Go.st (S' := T.setTop (mkF m 14 #[.val (.int m_), .val (.int x0), .val (.int x1), .val (.int n_), .val (.int y0), .val (.int y1)] [(.int n_), (.int m_)])) (fun t kt => XS.iloadN X.here hx rfl (hb hby dCV_13) rfl kt) ?_
      by_cases hc14_3 : m_ = n_
      · refine Go.st (S' := T.setTop (mkF m 19 #[.val (.int m_), .val (.int x0), .val (.int x1), .val (.int n_), .val (.int y0), .val (.int y1)] [])) (fun t kt => XS.icmpYes X.here hx rfl (pc0 := 14) (pc' := 19) rfl (hb hby dCV_14) rfl (XT.ii_eq_t hc14_3) (by decide) (by decide) kt) ?_
        refine Go.st (S' := T.setTop (mkF m 20 #[.val (.int m_), .val (.int x0), .val (.int x1), .val (.int n_), .val (.int y0), .val (.int y1)] [(.int m_)])) (fun t kt => XS.iloadN X.here hx rfl (hb hby dCV_19) rfl kt) ?_
        refine Go.st (S' := T.setTop (mkF m 21 #[.val (.int m_), .val (.int x0), .val (.int x1), .val (.int n_), .val (.int y0), .val (.int y1)] [(.int (2 : Int32)), (.int m_)])) (fun t kt => XS.iconst X.here hx rfl (hb hby dCV_20) kt) ?_
        by_cases hc21_4 : m_ < (2 : Int32)
        · refine Go.st (S' := T.setTop (mkF m 32 #[.val (.int m_), .val (.int x0), .val (.int x1), .val (.int n_), .val (.int y0), .val (.int y1)] [])) (fun t kt => XS.icmpYes X.here hx rfl (pc0 := 21) (pc' := 32) rfl (hb hby dCV_21) rfl (XT.ii_lt_t hc21_4) (by decide) (by decide) kt) ?_
          refine Go.st (S' := T.setTop (mkF m 33 #[.val (.int m_), .val (.int x0), .val (.int x1), .val (.int n_), .val (.int y0), .val (.int y1)] [(.int m_)])) (fun t kt => XS.iloadN X.here hx rfl (hb hby dCV_32) rfl kt) ?_
          refine Go.st (S' := T.setTop (mkF m 34 #[.val (.int m_), .val (.int x0), .val (.int x1), .val (.int n_), .val (.int y0), .val (.int y1)] [(.int (3 : Int32)), (.int m_)])) (fun t kt => XS.iconst X.here hx rfl (hb hby dCV_33) kt) ?_
          by_cases hc34_5 : m_ = (3 : Int32)
          · refine Go.st (S' := T.setTop (mkF m 37 #[.val (.int m_), .val (.int x0), .val (.int x1), .val (.int n_), .val (.int y0), .val (.int y1)] [])) (fun t kt => XS.icmpNo X.here hx rfl (hb hby dCV_34) rfl (XT.ii_ne_f hc34_5) kt) ?_
            refine Go.st (S' := T.setTop (mkF m 38 #[.val (.int m_), .val (.int x0), .val (.int x1), .val (.int n_), .val (.int y0), .val (.int y1)] [(.int x1)])) (fun t kt => XS.iloadN X.here hx rfl (hb hby dCV_37) rfl kt) ?_
            refine Go.st (S' := T.setTop (mkF m 40 #[.val (.int m_), .val (.int x0), .val (.int x1), .val (.int n_), .val (.int y0), .val (.int y1)] [(.int y1), (.int x1)])) (fun t kt => XS.iload X.here hx rfl (hb hby dCV_38) rfl kt) ?_
            by_cases hc40_6 : x1 = y1
            · refine Go.st (S' := T.setTop (mkF m 45 #[.val (.int m_), .val (.int x0), .val (.int x1), .val (.int n_), .val (.int y0), .val (.int y1)] [])) (fun t kt => XS.icmpYes X.here hx rfl (pc0 := 40) (pc' := 45) rfl (hb hby dCV_40) rfl (XT.ii_eq_t hc40_6) (by decide) (by decide) kt) ?_
              refine Go.st (S' := T.setTop (mkF m 46 #[.val (.int m_), .val (.int x0), .val (.int x1), .val (.int n_), .val (.int y0), .val (.int y1)] [(.int (1 : Int32))])) (fun t kt => XS.iconst X.here hx rfl (hb hby dCV_45) kt) ?_
              exact ret_b X hx hlk hret (hb hby dCV_46) (by decide) (by decide) (⟨by show some (Value.int (1 : Int32)) = _; rw [own_cov, if_neg hc1_1, if_neg hc7_2, if_pos hc14_3, if_pos hc21_4, if_pos hc34_5, if_pos hc40_6], N0, eT⟩)
            · refine Go.st (S' := T.setTop (mkF m 43 #[.val (.int m_), .val (.int x0), .val (.int x1), .val (.int n_), .val (.int y0), .val (.int y1)] [])) (fun t kt => XS.icmpNo X.here hx rfl (hb hby dCV_40) rfl (XT.ii_eq_f hc40_6) kt) ?_
              refine Go.st (S' := T.setTop (mkF m 44 #[.val (.int m_), .val (.int x0), .val (.int x1), .val (.int n_), .val (.int y0), .val (.int y1)] [(.int (0 : Int32))])) (fun t kt => XS.iconst X.here hx rfl (hb hby dCV_43) kt) ?_
              exact ret_b X hx hlk hret (hb hby dCV_44) (by decide) (by decide) (⟨by show some (Value.int (0 : Int32)) = _; rw [own_cov, if_neg hc1_1, if_neg hc7_2, if_pos hc14_3, if_pos hc21_4, if_pos hc34_5, if_neg hc40_6], N0, eT⟩)
          · refine Go.st (S' := T.setTop (mkF m 45 #[.val (.int m_), .val (.int x0), .val (.int x1), .val (.int n_), .val (.int y0), .val (.int y1)] [])) (fun t kt => XS.icmpYes X.here hx rfl (pc0 := 34) (pc' := 45) rfl (hb hby dCV_34) rfl (XT.ii_ne_t hc34_5) (by decide) (by decide) kt) ?_
            refine Go.st (S' := T.setTop (mkF m 46 #[.val (.int m_), .val (.int x0), .val (.int x1), .val (.int n_), .val (.int y0), .val (.int y1)] [(.int (1 : Int32))])) (fun t kt => XS.iconst X.here hx rfl (hb hby dCV_45) kt) ?_
            exact ret_b X hx hlk hret (hb hby dCV_46) (by decide) (by decide) (⟨by show some (Value.int (1 : Int32)) = _; rw [own_cov, if_neg hc1_1, if_neg hc7_2, if_pos hc14_3, if_pos hc21_4, if_neg hc34_5], N0, eT⟩)
        · refine Go.st (S' := T.setTop (mkF m 24 #[.val (.int m_), .val (.int x0), .val (.int x1), .val (.int n_), .val (.int y0), .val (.int y1)] [])) (fun t kt => XS.icmpNo X.here hx rfl (hb hby dCV_21) rfl (XT.ii_lt_f hc21_4) kt) ?_
          refine Go.st (S' := T.setTop (mkF m 25 #[.val (.int m_), .val (.int x0), .val (.int x1), .val (.int n_), .val (.int y0), .val (.int y1)] [(.int x0)])) (fun t kt => XS.iloadN X.here hx rfl (hb hby dCV_24) rfl kt) ?_
          refine Go.st (S' := T.setTop (mkF m 27 #[.val (.int m_), .val (.int x0), .val (.int x1), .val (.int n_), .val (.int y0), .val (.int y1)] [(.int y0), (.int x0)])) (fun t kt => XS.iload X.here hx rfl (hb hby dCV_25) rfl kt) ?_
          by_cases hc27_7 : x0 = y0
          · refine Go.st (S' := T.setTop (mkF m 32 #[.val (.int m_), .val (.int x0), .val (.int x1), .val (.int n_), .val (.int y0), .val (.int y1)] [])) (fun t kt => XS.icmpYes X.here hx rfl (pc0 := 27) (pc' := 32) rfl (hb hby dCV_27) rfl (XT.ii_eq_t hc27_7) (by decide) (by decide) kt) ?_
            refine Go.st (S' := T.setTop (mkF m 33 #[.val (.int m_), .val (.int x0), .val (.int x1), .val (.int n_), .val (.int y0), .val (.int y1)] [(.int m_)])) (fun t kt => XS.iloadN X.here hx rfl (hb hby dCV_32) rfl kt) ?_
            refine Go.st (S' := T.setTop (mkF m 34 #[.val (.int m_), .val (.int x0), .val (.int x1), .val (.int n_), .val (.int y0), .val (.int y1)] [(.int (3 : Int32)), (.int m_)])) (fun t kt => XS.iconst X.here hx rfl (hb hby dCV_33) kt) ?_
            by_cases hc34_8 : m_ = (3 : Int32)
            · refine Go.st (S' := T.setTop (mkF m 37 #[.val (.int m_), .val (.int x0), .val (.int x1), .val (.int n_), .val (.int y0), .val (.int y1)] [])) (fun t kt => XS.icmpNo X.here hx rfl (hb hby dCV_34) rfl (XT.ii_ne_f hc34_8) kt) ?_
              refine Go.st (S' := T.setTop (mkF m 38 #[.val (.int m_), .val (.int x0), .val (.int x1), .val (.int n_), .val (.int y0), .val (.int y1)] [(.int x1)])) (fun t kt => XS.iloadN X.here hx rfl (hb hby dCV_37) rfl kt) ?_
              refine Go.st (S' := T.setTop (mkF m 40 #[.val (.int m_), .val (.int x0), .val (.int x1), .val (.int n_), .val (.int y0), .val (.int y1)] [(.int y1), (.int x1)])) (fun t kt => XS.iload X.here hx rfl (hb hby dCV_38) rfl kt) ?_
              by_cases hc40_9 : x1 = y1
              · refine Go.st (S' := T.setTop (mkF m 45 #[.val (.int m_), .val (.int x0), .val (.int x1), .val (.int n_), .val (.int y0), .val (.int y1)] [])) (fun t kt => XS.icmpYes X.here hx rfl (pc0 := 40) (pc' := 45) rfl (hb hby dCV_40) rfl (XT.ii_eq_t hc40_9) (by decide) (by decide) kt) ?_
                refine Go.st (S' := T.setTop (mkF m 46 #[.val (.int m_), .val (.int x0), .val (.int x1), .val (.int n_), .val (.int y0), .val (.int y1)] [(.int (1 : Int32))])) (fun t kt => XS.iconst X.here hx rfl (hb hby dCV_45) kt) ?_
                exact ret_b X hx hlk hret (hb hby dCV_46) (by decide) (by decide) (⟨by show some (Value.int (1 : Int32)) = _; rw [own_cov, if_neg hc1_1, if_neg hc7_2, if_pos hc14_3, if_neg hc21_4, if_pos hc27_7, if_pos hc34_8, if_pos hc40_9], N0, eT⟩)
              · refine Go.st (S' := T.setTop (mkF m 43 #[.val (.int m_), .val (.int x0), .val (.int x1), .val (.int n_), .val (.int y0), .val (.int y1)] [])) (fun t kt => XS.icmpNo X.here hx rfl (hb hby dCV_40) rfl (XT.ii_eq_f hc40_9) kt) ?_
                refine Go.st (S' := T.setTop (mkF m 44 #[.val (.int m_), .val (.int x0), .val (.int x1), .val (.int n_), .val (.int y0), .val (.int y1)] [(.int (0 : Int32))])) (fun t kt => XS.iconst X.here hx rfl (hb hby dCV_43) kt) ?_
                exact ret_b X hx hlk hret (hb hby dCV_44) (by decide) (by decide) (⟨by show some (Value.int (0 : Int32)) = _; rw [own_cov, if_neg hc1_1, if_neg hc7_2, if_pos hc14_3, if_neg hc21_4, if_pos hc27_7, if_pos hc34_8, if_neg hc40_9], N0, eT⟩)
            · refine Go.st (S' := T.setTop (mkF m 45 #[.val (.int m_), .val (.int x0), .val (.int x1), .val (.int n_), .val (.int y0), .val (.int y1)] [])) (fun t kt => XS.icmpYes X.here hx rfl (pc0 := 34) (pc' := 45) rfl (hb hby dCV_34) rfl (XT.ii_ne_t hc34_8) (by decide) (by decide) kt) ?_
              refine Go.st (S' := T.setTop (mkF m 46 #[.val (.int m_), .val (.int x0), .val (.int x1), .val (.int n_), .val (.int y0), .val (.int y1)] [(.int (1 : Int32))])) (fun t kt => XS.iconst X.here hx rfl (hb hby dCV_45) kt) ?_
              exact ret_b X hx hlk hret (hb hby dCV_46) (by decide) (by decide) (⟨by show some (Value.int (1 : Int32)) = _; rw [own_cov, if_neg hc1_1, if_neg hc7_2, if_pos hc14_3, if_neg hc21_4, if_pos hc27_7, if_neg hc34_8], N0, eT⟩)
          · refine Go.st (S' := T.setTop (mkF m 30 #[.val (.int m_), .val (.int x0), .val (.int x1), .val (.int n_), .val (.int y0), .val (.int y1)] [])) (fun t kt => XS.icmpNo X.here hx rfl (hb hby dCV_27) rfl (XT.ii_eq_f hc27_7) kt) ?_
            refine Go.st (S' := T.setTop (mkF m 31 #[.val (.int m_), .val (.int x0), .val (.int x1), .val (.int n_), .val (.int y0), .val (.int y1)] [(.int (0 : Int32))])) (fun t kt => XS.iconst X.here hx rfl (hb hby dCV_30) kt) ?_
            exact ret_b X hx hlk hret (hb hby dCV_31) (by decide) (by decide) (⟨by show some (Value.int (0 : Int32)) = _; rw [own_cov, if_neg hc1_1, if_neg hc7_2, if_pos hc14_3, if_neg hc21_4, if_neg hc27_7], N0, eT⟩)
      · refine Go.st (S' := T.setTop (mkF m 17 #[.val (.int m_), .val (.int x0), .val (.int x1), .val (.int n_), .val (.int y0), .val (.int y1)] [])) (fun t kt => XS.icmpNo X.here hx rfl (hb hby dCV_14) rfl (XT.ii_eq_f hc14_3) kt) ?_
        refine Go.st (S' := T.setTop (mkF m 18 #[.val (.int m_), .val (.int x0), .val (.int x1), .val (.int n_), .val (.int y0), .val (.int y1)] [(.int (0 : Int32))])) (fun t kt => XS.iconst X.here hx rfl (hb hby dCV_17) kt) ?_
        exact ret_b X hx hlk hret (hb hby dCV_18) (by decide) (by decide) (⟨by show some (Value.int (0 : Int32)) = _; rw [own_cov, if_neg hc1_1, if_neg hc7_2, if_neg hc14_3], N0, eT⟩)
theorem StrIs.some {Z : State} {h : Heap} {a : Addr} {o : Option (List Int32)} (F : StrIs Z h (.ref a) o) : ¬ o = none := by
  rcases F with ⟨e, -⟩ | ⟨a', e, ⟨q, F⟩ | ⟨b0, q, F⟩ | ⟨b0, b1, q, F⟩⟩
  · cases e
  all_goals (rw [q]; intro h; cases h)
theorem own_if01 {c : Prop} [Decidable c] (h : ¬ (if c then (1 : Int32) else 0) = 0) : c := by
  by_cases q : c
  · exact q
  · exact absurd (if_neg q) h
theorem own_if00 {c : Prop} [Decidable c] (h : (if c then (1 : Int32) else 0) = 0) : ¬ c := fun q => by rw [if_pos q] at h; exact absurd h (by decide)
theorem dAE_0 : decode prog_30_method_3_code 0 = .ok (.aload_n 0, 1) := by decide +kernel
theorem dAE_1 : decode prog_30_method_3_code 1 = .ok (.getfield 17, 3) := by decide +kernel
theorem dAE_4 : decode prog_30_method_3_code 4 = .ok (.ifnull 17, 3) := by decide +kernel
theorem dAE_7 : decode prog_30_method_3_code 7 = .ok (.aload_n 0, 1) := by decide +kernel
theorem dAE_8 : decode prog_30_method_3_code 8 = .ok (.getfield 17, 3) := by decide +kernel
theorem dAE_11 : decode prog_30_method_3_code 11 = .ok (.aload_n 1, 1) := by decide +kernel
theorem dAE_12 : decode prog_30_method_3_code 12 = .ok (.getfield 17, 3) := by decide +kernel
theorem dAE_15 : decode prog_30_method_3_code 15 = .ok (.invokevirtual 33, 3) := by decide +kernel
theorem dAE_18 : decode prog_30_method_3_code 18 = .ok (.ifCond .eq 28, 3) := by decide +kernel
theorem dAE_21 : decode prog_30_method_3_code 21 = .ok (.aload_n 0, 1) := by decide +kernel
theorem dAE_22 : decode prog_30_method_3_code 22 = .ok (.getfield 21, 3) := by decide +kernel
theorem dAE_25 : decode prog_30_method_3_code 25 = .ok (.ifnull 17, 3) := by decide +kernel
theorem dAE_28 : decode prog_30_method_3_code 28 = .ok (.aload_n 0, 1) := by decide +kernel
theorem dAE_29 : decode prog_30_method_3_code 29 = .ok (.getfield 21, 3) := by decide +kernel
theorem dAE_32 : decode prog_30_method_3_code 32 = .ok (.aload_n 1, 1) := by decide +kernel
theorem dAE_33 : decode prog_30_method_3_code 33 = .ok (.getfield 21, 3) := by decide +kernel
theorem dAE_36 : decode prog_30_method_3_code 36 = .ok (.invokevirtual 33, 3) := by decide +kernel
theorem dAE_39 : decode prog_30_method_3_code 39 = .ok (.ifCond .eq 7, 3) := by decide +kernel
theorem dAE_42 : decode prog_30_method_3_code 42 = .ok (.iconst 1, 1) := by decide +kernel
theorem dAE_43 : decode prog_30_method_3_code 43 = .ok (.goto 4, 3) := by decide +kernel
theorem dAE_46 : decode prog_30_method_3_code 46 = .ok (.iconst 0, 1) := by decide +kernel
theorem dAE_47 : decode prog_30_method_3_code 47 = .ok (.ireturn, 1) := by decide +kernel
theorem pd__Ljava_lang_Object__Z : parseMethodDescriptor "(Ljava/lang/Object;)Z" = some ⟨[(.object "java/lang/Object")], some .boolean⟩ := by decide +kernel
theorem ef_rmAE (m : MethodId) (a : Addr) (b : Addr) : entryFrame m #[(.ref a), (.ref b)] 2 = mkF m 0 #[.val (.ref a), .val (.ref b)] [] := by first | exact own_entry rfl | (simp [entryFrame, mkF, argsToLocals, Value.category]; done) | rfl
set_option maxRecDepth 65536 in
set_option maxHeartbeats 40000000 in
theorem rmAE (l : Launch) (Z : State) (a0 : Array Value) (hw : ∀ d ∈ tables_1, d.before a0 Z = true) (a b : Addr) (u1 u2 u3 u4 : Value) (o1 o2 o3 o4 : Option (List Int32)) (h0 : Heap) (n0 : Nat) (Z0 : n0 ≤ h0.size) (cs : Int32) (S_cs : Sta Z h0 "java/lang/String" "COMPACT_STRINGS" "Z" (.int cs)) (hcs : ¬ cs = 0) (E_a : Exa Z h0 a "com/example/sunder/sunder/query/Step") (F_u1 : Fld Z h0 a "com/example/sunder/sunder/query/Step" "namespaceUri" "Ljava/lang/String;" u1) (F_u2 : Fld Z h0 a "com/example/sunder/sunder/query/Step" "localName" "Ljava/lang/String;" u2) (F_u3 : Fld Z h0 b "com/example/sunder/sunder/query/Step" "namespaceUri" "Ljava/lang/String;" u3) (F_u4 : Fld Z h0 b "com/example/sunder/sunder/query/Step" "localName" "Ljava/lang/String;" u4) (hu3 : u3.isRef = true) (hu4 : u4.isRef = true) (S_u1 : StrIs Z h0 u1 o1) (S_u2 : StrIs Z h0 u2 o2) (S_u3 : StrIs Z h0 u3 o3) (S_u4 : StrIs Z h0 u4 o4) (D1 : ∀ a, u1 = .ref a → u3 ≠ .ref a) (D2 : ∀ a, u2 = .ref a → u4 ≠ .ref a) :
    Pays l (⟨"com/example/sunder/sunder/query/Step", "admitsEvery", "(Lcom/example/sunder/sunder/query/Step;)Z"⟩ : MethodName) prog_30_method_3_code 2 (some .boolean) ({ frames := 2, cells := 0, slots := 0, locals := 28 } : Room) Z #[(.ref a), (.ref b)] h0 (fun v h L => v = some (.int (own_adm o1 o2 o3 o4)) ∧ Fr n0 L ∧ h = h0) := by
  refine Pays.of (plainFor_of_name pn_com_example_sunder_sunder_query_Step) ?_
  intro pP eE sS m below methM cC T hx hby hml hret hlk hZ hown hnm eT X
  replace hown : sS.vm.findClass "com/example/sunder/sunder/query/Step" = some m.cls := hown
  have N0 := Fr.nil n0
  refine Go.cast (ef_rmAE m a b) ?_
  rcases S_u1 with ⟨rfl, rfl⟩ | ⟨a1, rfl, S_u1⟩
  · rcases S_u2 with ⟨rfl, rfl⟩ | ⟨a2, rfl, S_u2⟩
    · refine Go.st (S' := T.setTop (mkF m 1 #[.val (.ref a), .val (.ref b)] [(.ref a)])) (fun t kt => XS.aloadN X.here hx rfl (hb hby dAE_0) rfl rfl kt) ?_
      obtain ⟨T1, X1, e1, st1⟩ := getF X hx hZ hown (host := "") (Or.inl (hw _ (List.mem_of_getElem? (i := 31) rfl))) Via.refl eT F_u1 (g := (mkF m 1 #[.val (.ref a), .val (.ref b)] [(.ref a)])) rfl rfl (hb hby dAE_1)
      refine Go.st (S' := T1.setTop (mkF m 4 #[.val (.ref a), .val (.ref b)] [.null])) (fun t kt => st1 t kt) ?_
      refine Go.st (S' := T1.setTop (mkF m 21 #[.val (.ref a), .val (.ref b)] [])) (fun t kt => XS.ifnullYes X1.here hx rfl (pc0 := 4) (pc' := 21) rfl (hb hby dAE_4) rfl (by decide) (by decide) kt) ?_
      refine Go.st (S' := T1.setTop (mkF m 22 #[.val (.ref a), .val (.ref b)] [(.ref a)])) (fun t kt => XS.aloadN X1.here hx rfl (hb hby dAE_21) rfl rfl kt) ?_
      obtain ⟨T2, X2, e2, st2⟩ := getF X1 hx hZ hown (host := "") (Or.inl (hw _ (List.mem_of_getElem? (i := 33) rfl))) Via.refl e1 F_u2 (g := (mkF m 22 #[.val (.ref a), .val (.ref b)] [(.ref a)])) rfl rfl (hb hby dAE_22)
      refine Go.st (S' := T2.setTop (mkF m 25 #[.val (.ref a), .val (.ref b)] [.null])) (fun t kt => st2 t kt) ?_
      refine Go.st (S' := T2.setTop (mkF m 42 #[.val (.ref a), .val (.ref b)] [])) (fun t kt => XS.ifnullYes X2.here hx rfl (pc0 := 25) (pc' := 42) rfl (hb hby dAE_25) rfl (by decide) (by decide) kt) ?_
      refine Go.st (S' := T2.setTop (mkF m 43 #[.val (.ref a), .val (.ref b)] [(.int (1 : Int32))])) (fun t kt => XS.iconst X2.here hx rfl (hb hby dAE_42) kt) ?_
      refine Go.st (S' := T2.setTop (mkF m 47 #[.val (.ref a), .val (.ref b)] [(.int (1 : Int32))])) (fun t kt => XS.goto X2.here hx rfl (pc0 := 43) (pc' := 47) rfl (hb hby dAE_43) (by decide) (by decide) kt) ?_
      exact ret_b X2 hx hlk hret (hb hby dAE_47) (by decide) (by decide) (⟨by show some (Value.int (1 : Int32)) = _; simp [own_adm], N0, e2⟩)
    · replace S_u2 : StrIs Z h0 (.ref a2) o2 := Or.inr ⟨a2, rfl, S_u2⟩
      refine Go.st (S' := T.setTop (mkF m 1 #[.val (.ref a), .val (.ref b)] [(.ref a)])) (fun t kt => XS.aloadN X.here hx rfl (hb hby dAE_0) rfl rfl kt) ?_
      obtain ⟨T3, X3, e3, st3⟩ := getF X hx hZ hown (host := "") (Or.inl (hw _ (List.mem_of_getElem? (i := 31) rfl))) Via.refl eT F_u1 (g := (mkF m 1 #[.val (.ref a), .val (.ref b)] [(.ref a)])) rfl rfl (hb hby dAE_1)
      refine Go.st (S' := T3.setTop (mkF m 4 #[.val (.ref a), .val (.ref b)] [.null])) (fun t kt => st3 t kt) ?_
      refine Go.st (S' := T3.setTop (mkF m 21 #[.val (.ref a), .val (.ref b)] [])) (fun t kt => XS.ifnullYes X3.here hx rfl (pc0 := 4) (pc' := 21) rfl (hb hby dAE_4) rfl (by decide) (by decide) kt) ?_
      refine Go.st (S' := T3.setTop (mkF m 22 #[.val (.ref a), .val (.ref b)] [(.ref a)])) (fun t kt => XS.aloadN X3.here hx rfl (hb hby dAE_21) rfl rfl kt) ?_
      obtain ⟨T4, X4, e4, st4⟩ := getF X3 hx hZ hown (host := "") (Or.inl (hw _ (List.mem_of_getElem? (i := 33) rfl))) Via.refl e3 F_u2 (g := (mkF m 22 #[.val (.ref a), .val (.ref b)] [(.ref a)])) rfl rfl (hb hby dAE_22)
      refine Go.st (S' := T4.setTop (mkF m 25 #[.val (.ref a), .val (.ref b)] [(.ref a2)])) (fun t kt => st4 t kt) ?_
      refine Go.st (S' := T4.setTop (mkF m 28 #[.val (.ref a), .val (.ref b)] [])) (fun t kt => XS.ifnullNo X4.here hx rfl (hb hby dAE_25) rfl kt) ?_
      refine Go.st (S' := T4.setTop (mkF m 29 #[.val (.ref a), .val (.ref b)] [(.ref a)])) (fun t kt => XS.aloadN X4.here hx rfl (hb hby dAE_28) rfl rfl kt) ?_
      obtain ⟨T5, X5, e5, st5⟩ := getF X4 hx hZ hown (host := "") (Or.inl (hw _ (List.mem_of_getElem? (i := 33) rfl))) Via.refl e4 F_u2 (g := (mkF m 29 #[.val (.ref a), .val (.ref b)] [(.ref a)])) rfl rfl (hb hby dAE_29)
      refine Go.st (S' := T5.setTop (mkF m 32 #[.val (.ref a), .val (.ref b)] [(.ref a2)])) (fun t kt => st5 t kt) ?_
      refine Go.st (S' := T5.setTop (mkF m 33 #[.val (.ref a), .val (.ref b)] [(.ref b), (.ref a2)])) (fun t kt => XS.aloadN X5.here hx rfl (hb hby dAE_32) rfl rfl kt) ?_
      obtain ⟨T6, X6, e6, st6⟩ := getF X5 hx hZ hown (host := "") (Or.inl (hw _ (List.mem_of_getElem? (i := 33) rfl))) Via.refl e5 F_u4 (g := (mkF m 33 #[.val (.ref a), .val (.ref b)] [(.ref b), (.ref a2)])) rfl rfl (hb hby dAE_33)
      refine Go.st (S' := T6.setTop (mkF m 36 #[.val (.ref a), .val (.ref b)] [u4, (.ref a2)])) (fun t kt => st6 t kt) ?_
      refine Go.virt X6 hx hZ hown (hw _ (List.mem_of_getElem? (i := 77) rfl)) (hw _ (List.mem_of_getElem? (i := 78) rfl)) (notFace_of_selects (mvT (args := #[]) hZ (hw _ (List.mem_of_getElem? (i := 80) rfl)))) (hw _ (List.mem_of_getElem? (i := 80) rfl)) (hw _ (List.mem_of_getElem? (i := 79) rfl)) (hw _ (List.mem_of_getElem? (i := 81) rfl)) (hw _ (List.mem_of_getElem? (i := 49) rfl)) (by decide) (b := a2) (argsL := [u4]) (rest := []) (rmEQ l Z a0 hw a2 u4 o2 o4 h0 n0 Z0 S_u2 S_u4 (D2 _ rfl) cs S_cs hcs) e6 (StrIs.exa S_u2) rfl (by rw [hml]; rfl) pd__Ljava_lang_Object__Z rfl (hb hby dAE_36) 0 (Nat.le_refl _) (by decide) (by decide) (by decide) (by decide) ?_
      intro v7 T7 L7 X7 hQ7
      obtain ⟨hv7, N7', e7⟩ := hQ7
      subst hv7
      have N7 := Fr.app N0 N7'
      show Go pP eE below _ (T7.setTop (mkF m 39 #[.val (.ref a), .val (.ref b)] [(.int (if o2 = o4 then (1 : Int32) else 0))]))
      by_cases hc39_8 : (if o2 = o4 then (1 : Int32) else 0) = 0
      · refine Go.st (S' := T7.setTop (mkF m 46 #[.val (.ref a), .val (.ref b)] [])) (fun t kt => XS.ifYes X7.here hx rfl (pc0 := 39) (pc' := 46) rfl (hb hby dAE_39) rfl (XT.i0_eq_t hc39_8) (by decide) (by decide) kt) ?_
        refine Go.st (S' := T7.setTop (mkF m 47 #[.val (.ref a), .val (.ref b)] [(.int (0 : Int32))])) (fun t kt => XS.iconst X7.here hx rfl (hb hby dAE_46) kt) ?_
        exact ret_b X7 hx hlk hret (hb hby dAE_47) (by decide) (by decide) (⟨by show some (Value.int (0 : Int32)) = _; simp [own_adm, StrIs.some S_u2, own_if00 hc39_8], N7, e7⟩)
      · refine Go.st (S' := T7.setTop (mkF m 42 #[.val (.ref a), .val (.ref b)] [])) (fun t kt => XS.ifNo X7.here hx rfl (hb hby dAE_39) rfl (XT.i0_eq_f hc39_8) kt) ?_
        refine Go.st (S' := T7.setTop (mkF m 43 #[.val (.ref a), .val (.ref b)] [(.int (1 : Int32))])) (fun t kt => XS.iconst X7.here hx rfl (hb hby dAE_42) kt) ?_
        refine Go.st (S' := T7.setTop (mkF m 47 #[.val (.ref a), .val (.ref b)] [(.int (1 : Int32))])) (fun t kt => XS.goto X7.here hx rfl (pc0 := 43) (pc' := 47) rfl (hb hby dAE_43) (by decide) (by decide) kt) ?_
        exact ret_b X7 hx hlk hret (hb hby dAE_47) (by decide) (by decide) (⟨by show some (Value.int (1 : Int32)) = _; simp [own_adm, StrIs.some S_u2, own_if01 hc39_8], N7, e7⟩)
  · replace S_u1 : StrIs Z h0 (.ref a1) o1 := Or.inr ⟨a1, rfl, S_u1⟩
    rcases S_u2 with ⟨rfl, rfl⟩ | ⟨a2, rfl, S_u2⟩
    · refine Go.st (S' := T.setTop (mkF m 1 #[.val (.ref a), .val (.ref b)] [(.ref a)])) (fun t kt => XS.aloadN X.here hx rfl (hb hby dAE_0) rfl rfl kt) ?_
      obtain ⟨T9, X9, e9, st9⟩ := getF X hx hZ hown (host := "") (Or.inl (hw _ (List.mem_of_getElem? (i := 31) rfl))) Via.refl eT F_u1 (g := (mkF m 1 #[.val (.ref a), .val (.ref b)] [(.ref a)])) rfl rfl (hb hby dAE_1)
      refine Go.st (S' := T9.setTop (mkF m 4 #[.val (.ref a), .val (.ref b)] [(.ref a1)])) (fun t kt => st9 t kt) ?_
      refine Go.st (S' := T9.setTop (mkF m 7 #[.val (.ref a), .val (.ref b)] [])) (fun t kt => XS.ifnullNo X9.here hx rfl (hb hby dAE_4) rfl kt) ?_
      refine Go.st (S' := T9.setTop (mkF m 8 #[.val (.ref a), .val (.ref b)] [(.ref a)])) (fun t kt => XS.aloadN X9.here hx rfl (hb hby dAE_7) rfl rfl kt) ?_
      obtain ⟨T10, X10, e10, st10⟩ := getF X9 hx hZ hown (host := "") (Or.inl (hw _ (List.mem_of_getElem? (i := 31) rfl))) Via.refl e9 F_u1 (g := (mkF m 8 #[.val (.ref a), .val (.ref b)] [(.ref a)])) rfl rfl (hb hby dAE_8)
      refine Go.st (S' := T10.setTop (mkF m 11 #[.val (.ref a), .val (.ref b)] [(.ref a1)])) (fun t kt => st10 t kt) ?_
      refine Go.st (S' := T10.setTop (mkF m 12 #[.val (.ref a), .val (.ref b)] [(.ref b), (.ref a1)])) (fun t kt => XS.aloadN X10.here hx rfl (hb hby dAE_11) rfl rfl kt) ?_
      obtain ⟨T11, X11, e11, st11⟩ := getF X10 hx hZ hown (host := "") (Or.inl (hw _ (List.mem_of_getElem? (i := 31) rfl))) Via.refl e10 F_u3 (g := (mkF m 12 #[.val (.ref a), .val (.ref b)] [(.ref b), (.ref a1)])) rfl rfl (hb hby dAE_12)
      refine Go.st (S' := T11.setTop (mkF m 15 #[.val (.ref a), .val (.ref b)] [u3, (.ref a1)])) (fun t kt => st11 t kt) ?_
      refine Go.virt X11 hx hZ hown (hw _ (List.mem_of_getElem? (i := 77) rfl)) (hw _ (List.mem_of_getElem? (i := 78) rfl)) (notFace_of_selects (mvT (args := #[]) hZ (hw _ (List.mem_of_getElem? (i := 80) rfl)))) (hw _ (List.mem_of_getElem? (i := 80) rfl)) (hw _ (List.mem_of_getElem? (i := 79) rfl)) (hw _ (List.mem_of_getElem? (i := 81) rfl)) (hw _ (List.mem_of_getElem? (i := 49) rfl)) (by decide) (b := a1) (argsL := [u3]) (rest := []) (rmEQ l Z a0 hw a1 u3 o1 o3 h0 n0 Z0 S_u1 S_u3 (D1 _ rfl) cs S_cs hcs) e11 (StrIs.exa S_u1) rfl (by rw [hml]; rfl) pd__Ljava_lang_Object__Z rfl (hb hby dAE_15) 0 (Nat.le_refl _) (by decide) (by decide) (by decide) (by decide) ?_
      intro v12 T12 L12 X12 hQ12
      obtain ⟨hv12, N12', e12⟩ := hQ12
      subst hv12
      have N12 := Fr.app N0 N12'
      show Go pP eE below _ (T12.setTop (mkF m 18 #[.val (.ref a), .val (.ref b)] [(.int (if o1 = o3 then (1 : Int32) else 0))]))
      by_cases hc18_13 : (if o1 = o3 then (1 : Int32) else 0) = 0
      · refine Go.st (S' := T12.setTop (mkF m 46 #[.val (.ref a), .val (.ref b)] [])) (fun t kt => XS.ifYes X12.here hx rfl (pc0 := 18) (pc' := 46) rfl (hb hby dAE_18) rfl (XT.i0_eq_t hc18_13) (by decide) (by decide) kt) ?_
        refine Go.st (S' := T12.setTop (mkF m 47 #[.val (.ref a), .val (.ref b)] [(.int (0 : Int32))])) (fun t kt => XS.iconst X12.here hx rfl (hb hby dAE_46) kt) ?_
        exact ret_b X12 hx hlk hret (hb hby dAE_47) (by decide) (by decide) (⟨by show some (Value.int (0 : Int32)) = _; simp [own_adm, StrIs.some S_u1, own_if00 hc18_13], N12, e12⟩)
      · refine Go.st (S' := T12.setTop (mkF m 21 #[.val (.ref a), .val (.ref b)] [])) (fun t kt => XS.ifNo X12.here hx rfl (hb hby dAE_18) rfl (XT.i0_eq_f hc18_13) kt) ?_
        refine Go.st (S' := T12.setTop (mkF m 22 #[.val (.ref a), .val (.ref b)] [(.ref a)])) (fun t kt => XS.aloadN X12.here hx rfl (hb hby dAE_21) rfl rfl kt) ?_
        obtain ⟨T14, X14, e14, st14⟩ := getF X12 hx hZ hown (host := "") (Or.inl (hw _ (List.mem_of_getElem? (i := 33) rfl))) Via.refl e12 F_u2 (g := (mkF m 22 #[.val (.ref a), .val (.ref b)] [(.ref a)])) rfl rfl (hb hby dAE_22)
        refine Go.st (S' := T14.setTop (mkF m 25 #[.val (.ref a), .val (.ref b)] [.null])) (fun t kt => st14 t kt) ?_
        refine Go.st (S' := T14.setTop (mkF m 42 #[.val (.ref a), .val (.ref b)] [])) (fun t kt => XS.ifnullYes X14.here hx rfl (pc0 := 25) (pc' := 42) rfl (hb hby dAE_25) rfl (by decide) (by decide) kt) ?_
        refine Go.st (S' := T14.setTop (mkF m 43 #[.val (.ref a), .val (.ref b)] [(.int (1 : Int32))])) (fun t kt => XS.iconst X14.here hx rfl (hb hby dAE_42) kt) ?_
        refine Go.st (S' := T14.setTop (mkF m 47 #[.val (.ref a), .val (.ref b)] [(.int (1 : Int32))])) (fun t kt => XS.goto X14.here hx rfl (pc0 := 43) (pc' := 47) rfl (hb hby dAE_43) (by decide) (by decide) kt) ?_
        exact ret_b X14 hx hlk hret (hb hby dAE_47) (by decide) (by decide) (⟨by show some (Value.int (1 : Int32)) = _; simp [own_adm, StrIs.some S_u1, own_if01 hc18_13], N12, e14⟩)
    · replace S_u2 : StrIs Z h0 (.ref a2) o2 := Or.inr ⟨a2, rfl, S_u2⟩
      refine Go.st (S' := T.setTop (mkF m 1 #[.val (.ref a), .val (.ref b)] [(.ref a)])) (fun t kt => XS.aloadN X.here hx rfl (hb hby dAE_0) rfl rfl kt) ?_
      obtain ⟨T15, X15, e15, st15⟩ := getF X hx hZ hown (host := "") (Or.inl (hw _ (List.mem_of_getElem? (i := 31) rfl))) Via.refl eT F_u1 (g := (mkF m 1 #[.val (.ref a), .val (.ref b)] [(.ref a)])) rfl rfl (hb hby dAE_1)
      refine Go.st (S' := T15.setTop (mkF m 4 #[.val (.ref a), .val (.ref b)] [(.ref a1)])) (fun t kt => st15 t kt) ?_
      refine Go.st (S' := T15.setTop (mkF m 7 #[.val (.ref a), .val (.ref b)] [])) (fun t kt => XS.ifnullNo X15.here hx rfl (hb hby dAE_4) rfl kt) ?_
      refine Go.st (S' := T15.setTop (mkF m 8 #[.val (.ref a), .val (.ref b)] [(.ref a)])) (fun t kt => XS.aloadN X15.here hx rfl (hb hby dAE_7) rfl rfl kt) ?_
      obtain ⟨T16, X16, e16, st16⟩ := getF X15 hx hZ hown (host := "") (Or.inl (hw _ (List.mem_of_getElem? (i := 31) rfl))) Via.refl e15 F_u1 (g := (mkF m 8 #[.val (.ref a), .val (.ref b)] [(.ref a)])) rfl rfl (hb hby dAE_8)
      refine Go.st (S' := T16.setTop (mkF m 11 #[.val (.ref a), .val (.ref b)] [(.ref a1)])) (fun t kt => st16 t kt) ?_
      refine Go.st (S' := T16.setTop (mkF m 12 #[.val (.ref a), .val (.ref b)] [(.ref b), (.ref a1)])) (fun t kt => XS.aloadN X16.here hx rfl (hb hby dAE_11) rfl rfl kt) ?_
      obtain ⟨T17, X17, e17, st17⟩ := getF X16 hx hZ hown (host := "") (Or.inl (hw _ (List.mem_of_getElem? (i := 31) rfl))) Via.refl e16 F_u3 (g := (mkF m 12 #[.val (.ref a), .val (.ref b)] [(.ref b), (.ref a1)])) rfl rfl (hb hby dAE_12)
      refine Go.st (S' := T17.setTop (mkF m 15 #[.val (.ref a), .val (.ref b)] [u3, (.ref a1)])) (fun t kt => st17 t kt) ?_
      refine Go.virt X17 hx hZ hown (hw _ (List.mem_of_getElem? (i := 77) rfl)) (hw _ (List.mem_of_getElem? (i := 78) rfl)) (notFace_of_selects (mvT (args := #[]) hZ (hw _ (List.mem_of_getElem? (i := 80) rfl)))) (hw _ (List.mem_of_getElem? (i := 80) rfl)) (hw _ (List.mem_of_getElem? (i := 79) rfl)) (hw _ (List.mem_of_getElem? (i := 81) rfl)) (hw _ (List.mem_of_getElem? (i := 49) rfl)) (by decide) (b := a1) (argsL := [u3]) (rest := []) (rmEQ l Z a0 hw a1 u3 o1 o3 h0 n0 Z0 S_u1 S_u3 (D1 _ rfl) cs S_cs hcs) e17 (StrIs.exa S_u1) rfl (by rw [hml]; rfl) pd__Ljava_lang_Object__Z rfl (hb hby dAE_15) 0 (Nat.le_refl _) (by decide) (by decide) (by decide) (by decide) ?_
      intro v18 T18 L18 X18 hQ18
      obtain ⟨hv18, N18', e18⟩ := hQ18
      subst hv18
      have N18 := Fr.app N0 N18'
      show Go pP eE below _ (T18.setTop (mkF m 18 #[.val (.ref a), .val (.ref b)] [(.int (if o1 = o3 then (1 : Int32) else 0))]))
      by_cases hc18_19 : (if o1 = o3 then (1 : Int32) else 0) = 0
      · refine Go.st (S' := T18.setTop (mkF m 46 #[.val (.ref a), .val (.ref b)] [])) (fun t kt => XS.ifYes X18.here hx rfl (pc0 := 18) (pc' := 46) rfl (hb hby dAE_18) rfl (XT.i0_eq_t hc18_19) (by decide) (by decide) kt) ?_
        refine Go.st (S' := T18.setTop (mkF m 47 #[.val (.ref a), .val (.ref b)] [(.int (0 : Int32))])) (fun t kt => XS.iconst X18.here hx rfl (hb hby dAE_46) kt) ?_
        exact ret_b X18 hx hlk hret (hb hby dAE_47) (by decide) (by decide) (⟨by show some (Value.int (0 : Int32)) = _; simp [own_adm, StrIs.some S_u1, StrIs.some S_u2, own_if00 hc18_19], N18, e18⟩)
      · refine Go.st (S' := T18.setTop (mkF m 21 #[.val (.ref a), .val (.ref b)] [])) (fun t kt => XS.ifNo X18.here hx rfl (hb hby dAE_18) rfl (XT.i0_eq_f hc18_19) kt) ?_
        refine Go.st (S' := T18.setTop (mkF m 22 #[.val (.ref a), .val (.ref b)] [(.ref a)])) (fun t kt => XS.aloadN X18.here hx rfl (hb hby dAE_21) rfl rfl kt) ?_
        obtain ⟨T20, X20, e20, st20⟩ := getF X18 hx hZ hown (host := "") (Or.inl (hw _ (List.mem_of_getElem? (i := 33) rfl))) Via.refl e18 F_u2 (g := (mkF m 22 #[.val (.ref a), .val (.ref b)] [(.ref a)])) rfl rfl (hb hby dAE_22)
        refine Go.st (S' := T20.setTop (mkF m 25 #[.val (.ref a), .val (.ref b)] [(.ref a2)])) (fun t kt => st20 t kt) ?_
        refine Go.st (S' := T20.setTop (mkF m 28 #[.val (.ref a), .val (.ref b)] [])) (fun t kt => XS.ifnullNo X20.here hx rfl (hb hby dAE_25) rfl kt) ?_
        refine Go.st (S' := T20.setTop (mkF m 29 #[.val (.ref a), .val (.ref b)] [(.ref a)])) (fun t kt => XS.aloadN X20.here hx rfl (hb hby dAE_28) rfl rfl kt) ?_
        obtain ⟨T21, X21, e21, st21⟩ := getF X20 hx hZ hown (host := "") (Or.inl (hw _ (List.mem_of_getElem? (i := 33) rfl))) Via.refl e20 F_u2 (g := (mkF m 29 #[.val (.ref a), .val (.ref b)] [(.ref a)])) rfl rfl (hb hby dAE_29)
        refine Go.st (S' := T21.setTop (mkF m 32 #[.val (.ref a), .val (.ref b)] [(.ref a2)])) (fun t kt => st21 t kt) ?_
        refine Go.st (S' := T21.setTop (mkF m 33 #[.val (.ref a), .val (.ref b)] [(.ref b), (.ref a2)])) (fun t kt => XS.aloadN X21.here hx rfl (hb hby dAE_32) rfl rfl kt) ?_
        obtain ⟨T22, X22, e22, st22⟩ := getF X21 hx hZ hown (host := "") (Or.inl (hw _ (List.mem_of_getElem? (i := 33) rfl))) Via.refl e21 F_u4 (g := (mkF m 33 #[.val (.ref a), .val (.ref b)] [(.ref b), (.ref a2)])) rfl rfl (hb hby dAE_33)
        refine Go.st (S' := T22.setTop (mkF m 36 #[.val (.ref a), .val (.ref b)] [u4, (.ref a2)])) (fun t kt => st22 t kt) ?_
        refine Go.virt X22 hx hZ hown (hw _ (List.mem_of_getElem? (i := 77) rfl)) (hw _ (List.mem_of_getElem? (i := 78) rfl)) (notFace_of_selects (mvT (args := #[]) hZ (hw _ (List.mem_of_getElem? (i := 80) rfl)))) (hw _ (List.mem_of_getElem? (i := 80) rfl)) (hw _ (List.mem_of_getElem? (i := 79) rfl)) (hw _ (List.mem_of_getElem? (i := 81) rfl)) (hw _ (List.mem_of_getElem? (i := 49) rfl)) (by decide) (b := a2) (argsL := [u4]) (rest := []) (rmEQ l Z a0 hw a2 u4 o2 o4 h0 n0 Z0 S_u2 S_u4 (D2 _ rfl) cs S_cs hcs) e22 (StrIs.exa S_u2) rfl (by rw [hml]; rfl) pd__Ljava_lang_Object__Z rfl (hb hby dAE_36) 0 (Nat.le_refl _) (by decide) (by decide) (by decide) (by decide) ?_
        intro v23 T23 L23 X23 hQ23
        obtain ⟨hv23, N23', e23⟩ := hQ23
        subst hv23
        have N23 := Fr.app N18 N23'
        show Go pP eE below _ (T23.setTop (mkF m 39 #[.val (.ref a), .val (.ref b)] [(.int (if o2 = o4 then (1 : Int32) else 0))]))
        by_cases hc39_24 : (if o2 = o4 then (1 : Int32) else 0) = 0
        · refine Go.st (S' := T23.setTop (mkF m 46 #[.val (.ref a), .val (.ref b)] [])) (fun t kt => XS.ifYes X23.here hx rfl (pc0 := 39) (pc' := 46) rfl (hb hby dAE_39) rfl (XT.i0_eq_t hc39_24) (by decide) (by decide) kt) ?_
          refine Go.st (S' := T23.setTop (mkF m 47 #[.val (.ref a), .val (.ref b)] [(.int (0 : Int32))])) (fun t kt => XS.iconst X23.here hx rfl (hb hby dAE_46) kt) ?_
          exact ret_b X23 hx hlk hret (hb hby dAE_47) (by decide) (by decide) (⟨by show some (Value.int (0 : Int32)) = _; simp [own_adm, StrIs.some S_u1, StrIs.some S_u2, own_if01 hc18_19, own_if00 hc39_24], N23, e23⟩)
        · refine Go.st (S' := T23.setTop (mkF m 42 #[.val (.ref a), .val (.ref b)] [])) (fun t kt => XS.ifNo X23.here hx rfl (hb hby dAE_39) rfl (XT.i0_eq_f hc39_24) kt) ?_
          refine Go.st (S' := T23.setTop (mkF m 43 #[.val (.ref a), .val (.ref b)] [(.int (1 : Int32))])) (fun t kt => XS.iconst X23.here hx rfl (hb hby dAE_42) kt) ?_
          refine Go.st (S' := T23.setTop (mkF m 47 #[.val (.ref a), .val (.ref b)] [(.int (1 : Int32))])) (fun t kt => XS.goto X23.here hx rfl (pc0 := 43) (pc' := 47) rfl (hb hby dAE_43) (by decide) (by decide) kt) ?_
          exact ret_b X23 hx hlk hret (hb hby dAE_47) (by decide) (by decide) (⟨by show some (Value.int (1 : Int32)) = _; simp [own_adm, StrIs.some S_u1, StrIs.some S_u2, own_if01 hc18_19, own_if01 hc39_24], N23, e23⟩)
theorem pd__II_I : parseMethodDescriptor "(II)I" = some ⟨[.int, .int], some .int⟩ := by decide +kernel
theorem pd__I_Lcom_example_sunder_sunder_query_Step_Kind_ : parseMethodDescriptor "(I)Lcom/example/sunder/sunder/query/Step$Kind;" = some ⟨[.int], some (.object "com/example/sunder/sunder/query/Step$Kind")⟩ := by decide +kernel
theorem pd__III_Ljava_lang_String_ : parseMethodDescriptor "(III)Ljava/lang/String;" = some ⟨[.int, .int, .int], some (.object "java/lang/String")⟩ := by decide +kernel
theorem pd__ZLcom_example_sunder_sunder_query_Step_Kind_Ljava_lang_String_Ljava_lang_String_Ljava_util_List__V : parseMethodDescriptor "(ZLcom/example/sunder/sunder/query/Step$Kind;Ljava/lang/String;Ljava/lang/String;Ljava/util/List;)V" = some ⟨[.boolean, (.object "com/example/sunder/sunder/query/Step$Kind"), (.object "java/lang/String"), (.object "java/lang/String"), (.object "java/util/List")], none⟩ := by decide +kernel
theorem pd__IIIIII_Z : parseMethodDescriptor "(IIIIII)Z" = some ⟨[.int, .int, .int, .int, .int, .int], some .boolean⟩ := by decide +kernel
theorem pd__Lcom_example_sunder_sunder_query_Step__Z : parseMethodDescriptor "(Lcom/example/sunder/sunder/query/Step;)Z" = some ⟨[(.object "com/example/sunder/sunder/query/Step")], some .boolean⟩ := by decide +kernel
theorem ef_rm0 (m : MethodId) (p0 : Int32) (p1 : Int32) (p2 : Int32) (p3 : Int32) (p4 : Int32) : entryFrame m #[(.int p0), (.int p1), (.int p2), (.int p3), (.int p4)] maxLocals = mkF m 0 #[.val (.int p0), .val (.int p1), .val (.int p2), .val (.int p3), .val (.int p4), .unset, .unset, .unset, .unset, .unset, .unset, .unset, .unset, .unset, .unset, .unset, .unset, .unset, .unset, .unset] [] := by first | exact own_entry rfl | (simp [entryFrame, mkF, argsToLocals, Value.category, maxLocals]; done) | rfl
set_option maxRecDepth 65536 in
set_option maxHeartbeats 40000000 in
theorem rm0 (l : Launch) (Z : State) (a0 : Array Value) (hw : ∀ d ∈ tables_1, d.before a0 Z = true) (p0 p1 p2 p3 p4 : Int32) (h0 : Heap) (n0 : Nat) (Z0 : n0 ≤ h0.size) (cs : Int32) (S_cs : Sta Z h0 "java/lang/String" "COMPACT_STRINGS" "Z" (.int cs)) (hcs : ¬ cs = 0) (k_ELEMENT : Addr) (k_ATTRIBUTE : Addr) (k_TEXT : Addr) (k_SELF : Addr) (S_ELEMENT : Sta Z h0 "com/example/sunder/sunder/query/Step$Kind" "ELEMENT" "Lcom/example/sunder/sunder/query/Step$Kind;" (.ref k_ELEMENT)) (S_ATTRIBUTE : Sta Z h0 "com/example/sunder/sunder/query/Step$Kind" "ATTRIBUTE" "Lcom/example/sunder/sunder/query/Step$Kind;" (.ref k_ATTRIBUTE)) (S_TEXT : Sta Z h0 "com/example/sunder/sunder/query/Step$Kind" "TEXT" "Lcom/example/sunder/sunder/query/Step$Kind;" (.ref k_TEXT)) (S_SELF : Sta Z h0 "com/example/sunder/sunder/query/Step$Kind" "SELF" "Lcom/example/sunder/sunder/query/Step$Kind;" (.ref k_SELF)) :
    PaysW l x code maxLocals ret room_1 Z own_EL #[(.int p0), (.int p1), (.int p2), (.int p3), (.int p4)] h0 (fun v h L => v = some (.int 1) ∧ Fr n0 L) := by
  refine PaysW.of (plainFor_of_name pn_com_example_sunder_sunder_query_StepAdmitsEveryPinLaw) ?_
  intro pP eE sS m below methM cC T hx hby hml hret hlk hZ0 hown0 hnm eT X C0 hS
  replace hown0 : sS.vm.findClass "com/example/sunder/sunder/query/StepAdmitsEveryPinLaw" = some m.cls := hown0
  have hown : (sS.setVm sS.vm).vm.findClass "com/example/sunder/sunder/query/StepAdmitsEveryPinLaw" = some m.cls := hown0
  have hZ : Z.Warmed39 (sS.setVm sS.vm).vm := hZ0
  have hk : 0 ≤ h0.size := Nat.zero_le _
  have hEL := own_ew hw
  have N0 := Fr.nil n0
  refine Go.cast (ef_rm0 m p0 p1 p2 p3 p4) ?_
  refine Go.st (S' := T.setTop (mkF m 1 #[.val (.int p0), .val (.int p1), .val (.int p2), .val (.int p3), .val (.int p4), .unset, .unset, .unset, .unset, .unset, .unset, .unset, .unset, .unset, .unset, .unset, .unset, .unset, .unset, .unset] [(.int p0)])) (fun t kt => XS.iloadN X.here hx rfl (hb hby at_0) rfl kt) ?_
  refine Go.st (S' := T.setTop (mkF m 2 #[.val (.int p0), .val (.int p1), .val (.int p2), .val (.int p3), .val (.int p4), .unset, .unset, .unset, .unset, .unset, .unset, .unset, .unset, .unset, .unset, .unset, .unset, .unset, .unset, .unset] [(.int (3 : Int32)), (.int p0)])) (fun t kt => XS.iconst X.here hx rfl (hb hby at_1) kt) ?_
  refine Go.st (S' := T.setTop (mkF m 3 #[.val (.int p0), .val (.int p1), .val (.int p2), .val (.int p3), .val (.int p4), .unset, .unset, .unset, .unset, .unset, .unset, .unset, .unset, .unset, .unset, .unset, .unset, .unset, .unset, .unset] [(.int (p0 &&& (3 : Int32)))])) (fun t kt => XS.iand X.here hx rfl (hb hby at_2) rfl kt) ?_
  refine Go.st (S' := T.setTop (mkF m 5 #[.val (.int p0), .val (.int p1), .val (.int p2), .val (.int p3), .val (.int p4), .val (.int (p0 &&& (3 : Int32))), .unset, .unset, .unset, .unset, .unset, .unset, .unset, .unset, .unset, .unset, .unset, .unset, .unset, .unset] [])) (fun t kt => XS.istore X.here hx rfl (hb hby at_3) rfl rfl kt) ?_
  refine Go.st (S' := T.setTop (mkF m 6 #[.val (.int p0), .val (.int p1), .val (.int p2), .val (.int p3), .val (.int p4), .val (.int (p0 &&& (3 : Int32))), .unset, .unset, .unset, .unset, .unset, .unset, .unset, .unset, .unset, .unset, .unset, .unset, .unset, .unset] [(.int p0)])) (fun t kt => XS.iloadN X.here hx rfl (hb hby at_5) rfl kt) ?_
  refine Go.st (S' := T.setTop (mkF m 7 #[.val (.int p0), .val (.int p1), .val (.int p2), .val (.int p3), .val (.int p4), .val (.int (p0 &&& (3 : Int32))), .unset, .unset, .unset, .unset, .unset, .unset, .unset, .unset, .unset, .unset, .unset, .unset, .unset, .unset] [(.int (2 : Int32)), (.int p0)])) (fun t kt => XS.iconst X.here hx rfl (hb hby at_6) kt) ?_
  refine Go.st (S' := T.setTop (mkF m 8 #[.val (.int p0), .val (.int p1), .val (.int p2), .val (.int p3), .val (.int p4), .val (.int (p0 &&& (3 : Int32))), .unset, .unset, .unset, .unset, .unset, .unset, .unset, .unset, .unset, .unset, .unset, .unset, .unset, .unset] [(.int (XT.ushr p0 (2 : Int32)))])) (fun t kt => XT.iushr X.here hx rfl (hb hby at_7) rfl kt) ?_
  refine Go.st (S' := T.setTop (mkF m 9 #[.val (.int p0), .val (.int p1), .val (.int p2), .val (.int p3), .val (.int p4), .val (.int (p0 &&& (3 : Int32))), .unset, .unset, .unset, .unset, .unset, .unset, .unset, .unset, .unset, .unset, .unset, .unset, .unset, .unset] [(.int (3 : Int32)), (.int (XT.ushr p0 (2 : Int32)))])) (fun t kt => XS.iconst X.here hx rfl (hb hby at_8) kt) ?_
  refine Go.st (S' := T.setTop (mkF m 10 #[.val (.int p0), .val (.int p1), .val (.int p2), .val (.int p3), .val (.int p4), .val (.int (p0 &&& (3 : Int32))), .unset, .unset, .unset, .unset, .unset, .unset, .unset, .unset, .unset, .unset, .unset, .unset, .unset, .unset] [(.int ((XT.ushr p0 (2 : Int32)) &&& (3 : Int32)))])) (fun t kt => XS.iand X.here hx rfl (hb hby at_9) rfl kt) ?_
  refine Go.st (S' := T.setTop (mkF m 12 #[.val (.int p0), .val (.int p1), .val (.int p2), .val (.int p3), .val (.int p4), .val (.int (p0 &&& (3 : Int32))), .val (.int ((XT.ushr p0 (2 : Int32)) &&& (3 : Int32))), .unset, .unset, .unset, .unset, .unset, .unset, .unset, .unset, .unset, .unset, .unset, .unset, .unset] [])) (fun t kt => XS.istore X.here hx rfl (hb hby at_10) rfl rfl kt) ?_
  refine Go.st (S' := T.setTop (mkF m 13 #[.val (.int p0), .val (.int p1), .val (.int p2), .val (.int p3), .val (.int p4), .val (.int (p0 &&& (3 : Int32))), .val (.int ((XT.ushr p0 (2 : Int32)) &&& (3 : Int32))), .unset, .unset, .unset, .unset, .unset, .unset, .unset, .unset, .unset, .unset, .unset, .unset, .unset] [(.int p0)])) (fun t kt => XS.iloadN X.here hx rfl (hb hby at_12) rfl kt) ?_
  refine Go.st (S' := T.setTop (mkF m 14 #[.val (.int p0), .val (.int p1), .val (.int p2), .val (.int p3), .val (.int p4), .val (.int (p0 &&& (3 : Int32))), .val (.int ((XT.ushr p0 (2 : Int32)) &&& (3 : Int32))), .unset, .unset, .unset, .unset, .unset, .unset, .unset, .unset, .unset, .unset, .unset, .unset, .unset] [(.int (4 : Int32)), (.int p0)])) (fun t kt => XS.iconst X.here hx rfl (hb hby at_13) kt) ?_
  refine Go.st (S' := T.setTop (mkF m 15 #[.val (.int p0), .val (.int p1), .val (.int p2), .val (.int p3), .val (.int p4), .val (.int (p0 &&& (3 : Int32))), .val (.int ((XT.ushr p0 (2 : Int32)) &&& (3 : Int32))), .unset, .unset, .unset, .unset, .unset, .unset, .unset, .unset, .unset, .unset, .unset, .unset, .unset] [(.int (XT.ushr p0 (4 : Int32)))])) (fun t kt => XT.iushr X.here hx rfl (hb hby at_14) rfl kt) ?_
  refine Go.st (S' := T.setTop (mkF m 16 #[.val (.int p0), .val (.int p1), .val (.int p2), .val (.int p3), .val (.int p4), .val (.int (p0 &&& (3 : Int32))), .val (.int ((XT.ushr p0 (2 : Int32)) &&& (3 : Int32))), .unset, .unset, .unset, .unset, .unset, .unset, .unset, .unset, .unset, .unset, .unset, .unset, .unset] [(.int (3 : Int32)), (.int (XT.ushr p0 (4 : Int32)))])) (fun t kt => XS.iconst X.here hx rfl (hb hby at_15) kt) ?_
  refine Go.st (S' := T.setTop (mkF m 17 #[.val (.int p0), .val (.int p1), .val (.int p2), .val (.int p3), .val (.int p4), .val (.int (p0 &&& (3 : Int32))), .val (.int ((XT.ushr p0 (2 : Int32)) &&& (3 : Int32))), .unset, .unset, .unset, .unset, .unset, .unset, .unset, .unset, .unset, .unset, .unset, .unset, .unset] [(.int ((XT.ushr p0 (4 : Int32)) &&& (3 : Int32)))])) (fun t kt => XS.iand X.here hx rfl (hb hby at_16) rfl kt) ?_
  refine Go.st (S' := T.setTop (mkF m 19 #[.val (.int p0), .val (.int p1), .val (.int p2), .val (.int p3), .val (.int p4), .val (.int (p0 &&& (3 : Int32))), .val (.int ((XT.ushr p0 (2 : Int32)) &&& (3 : Int32))), .val (.int ((XT.ushr p0 (4 : Int32)) &&& (3 : Int32))), .unset, .unset, .unset, .unset, .unset, .unset, .unset, .unset, .unset, .unset, .unset, .unset] [])) (fun t kt => XS.istore X.here hx rfl (hb hby at_17) rfl rfl kt) ?_
  refine Go.st (S' := T.setTop (mkF m 20 #[.val (.int p0), .val (.int p1), .val (.int p2), .val (.int p3), .val (.int p4), .val (.int (p0 &&& (3 : Int32))), .val (.int ((XT.ushr p0 (2 : Int32)) &&& (3 : Int32))), .val (.int ((XT.ushr p0 (4 : Int32)) &&& (3 : Int32))), .unset, .unset, .unset, .unset, .unset, .unset, .unset, .unset, .unset, .unset, .unset, .unset] [(.int p0)])) (fun t kt => XS.iloadN X.here hx rfl (hb hby at_19) rfl kt) ?_
  refine Go.st (S' := T.setTop (mkF m 22 #[.val (.int p0), .val (.int p1), .val (.int p2), .val (.int p3), .val (.int p4), .val (.int (p0 &&& (3 : Int32))), .val (.int ((XT.ushr p0 (2 : Int32)) &&& (3 : Int32))), .val (.int ((XT.ushr p0 (4 : Int32)) &&& (3 : Int32))), .unset, .unset, .unset, .unset, .unset, .unset, .unset, .unset, .unset, .unset, .unset, .unset] [(.int (6 : Int32)), (.int p0)])) (fun t kt => XT.bipushV X.here hx rfl (6 : Int32) (hb hby at_20) (by decide) kt) ?_
  refine Go.st (S' := T.setTop (mkF m 23 #[.val (.int p0), .val (.int p1), .val (.int p2), .val (.int p3), .val (.int p4), .val (.int (p0 &&& (3 : Int32))), .val (.int ((XT.ushr p0 (2 : Int32)) &&& (3 : Int32))), .val (.int ((XT.ushr p0 (4 : Int32)) &&& (3 : Int32))), .unset, .unset, .unset, .unset, .unset, .unset, .unset, .unset, .unset, .unset, .unset, .unset] [(.int (XT.ushr p0 (6 : Int32)))])) (fun t kt => XT.iushr X.here hx rfl (hb hby at_22) rfl kt) ?_
  refine Go.st (S' := T.setTop (mkF m 24 #[.val (.int p0), .val (.int p1), .val (.int p2), .val (.int p3), .val (.int p4), .val (.int (p0 &&& (3 : Int32))), .val (.int ((XT.ushr p0 (2 : Int32)) &&& (3 : Int32))), .val (.int ((XT.ushr p0 (4 : Int32)) &&& (3 : Int32))), .unset, .unset, .unset, .unset, .unset, .unset, .unset, .unset, .unset, .unset, .unset, .unset] [(.int (3 : Int32)), (.int (XT.ushr p0 (6 : Int32)))])) (fun t kt => XS.iconst X.here hx rfl (hb hby at_23) kt) ?_
  refine Go.st (S' := T.setTop (mkF m 25 #[.val (.int p0), .val (.int p1), .val (.int p2), .val (.int p3), .val (.int p4), .val (.int (p0 &&& (3 : Int32))), .val (.int ((XT.ushr p0 (2 : Int32)) &&& (3 : Int32))), .val (.int ((XT.ushr p0 (4 : Int32)) &&& (3 : Int32))), .unset, .unset, .unset, .unset, .unset, .unset, .unset, .unset, .unset, .unset, .unset, .unset] [(.int ((XT.ushr p0 (6 : Int32)) &&& (3 : Int32)))])) (fun t kt => XS.iand X.here hx rfl (hb hby at_24) rfl kt) ?_
  refine Go.st (S' := T.setTop (mkF m 27 #[.val (.int p0), .val (.int p1), .val (.int p2), .val (.int p3), .val (.int p4), .val (.int (p0 &&& (3 : Int32))), .val (.int ((XT.ushr p0 (2 : Int32)) &&& (3 : Int32))), .val (.int ((XT.ushr p0 (4 : Int32)) &&& (3 : Int32))), .val (.int ((XT.ushr p0 (6 : Int32)) &&& (3 : Int32))), .unset, .unset, .unset, .unset, .unset, .unset, .unset, .unset, .unset, .unset, .unset] [])) (fun t kt => XS.istore X.here hx rfl (hb hby at_25) rfl rfl kt) ?_
  refine Go.st (S' := T.setTop (mkF m 28 #[.val (.int p0), .val (.int p1), .val (.int p2), .val (.int p3), .val (.int p4), .val (.int (p0 &&& (3 : Int32))), .val (.int ((XT.ushr p0 (2 : Int32)) &&& (3 : Int32))), .val (.int ((XT.ushr p0 (4 : Int32)) &&& (3 : Int32))), .val (.int ((XT.ushr p0 (6 : Int32)) &&& (3 : Int32))), .unset, .unset, .unset, .unset, .unset, .unset, .unset, .unset, .unset, .unset, .unset] [(.int p1)])) (fun t kt => XS.iloadN X.here hx rfl (hb hby at_27) rfl kt) ?_
  refine Go.st (S' := T.setTop (mkF m 31 #[.val (.int p0), .val (.int p1), .val (.int p2), .val (.int p3), .val (.int p4), .val (.int (p0 &&& (3 : Int32))), .val (.int ((XT.ushr p0 (2 : Int32)) &&& (3 : Int32))), .val (.int ((XT.ushr p0 (4 : Int32)) &&& (3 : Int32))), .val (.int ((XT.ushr p0 (6 : Int32)) &&& (3 : Int32))), .unset, .unset, .unset, .unset, .unset, .unset, .unset, .unset, .unset, .unset, .unset] [(.int (255 : Int32)), (.int p1)])) (fun t kt => XT.sipushV X.here hx rfl (255 : Int32) (hb hby at_28) (by decide) kt) ?_
  refine Go.st (S' := T.setTop (mkF m 32 #[.val (.int p0), .val (.int p1), .val (.int p2), .val (.int p3), .val (.int p4), .val (.int (p0 &&& (3 : Int32))), .val (.int ((XT.ushr p0 (2 : Int32)) &&& (3 : Int32))), .val (.int ((XT.ushr p0 (4 : Int32)) &&& (3 : Int32))), .val (.int ((XT.ushr p0 (6 : Int32)) &&& (3 : Int32))), .unset, .unset, .unset, .unset, .unset, .unset, .unset, .unset, .unset, .unset, .unset] [(.int (p1 &&& (255 : Int32)))])) (fun t kt => XS.iand X.here hx rfl (hb hby at_31) rfl kt) ?_
  refine Go.st (S' := T.setTop (mkF m 34 #[.val (.int p0), .val (.int p1), .val (.int p2), .val (.int p3), .val (.int p4), .val (.int (p0 &&& (3 : Int32))), .val (.int ((XT.ushr p0 (2 : Int32)) &&& (3 : Int32))), .val (.int ((XT.ushr p0 (4 : Int32)) &&& (3 : Int32))), .val (.int ((XT.ushr p0 (6 : Int32)) &&& (3 : Int32))), .val (.int (p1 &&& (255 : Int32))), .unset, .unset, .unset, .unset, .unset, .unset, .unset, .unset, .unset, .unset] [])) (fun t kt => XS.istore X.here hx rfl (hb hby at_32) rfl rfl kt) ?_
  refine Go.st (S' := T.setTop (mkF m 35 #[.val (.int p0), .val (.int p1), .val (.int p2), .val (.int p3), .val (.int p4), .val (.int (p0 &&& (3 : Int32))), .val (.int ((XT.ushr p0 (2 : Int32)) &&& (3 : Int32))), .val (.int ((XT.ushr p0 (4 : Int32)) &&& (3 : Int32))), .val (.int ((XT.ushr p0 (6 : Int32)) &&& (3 : Int32))), .val (.int (p1 &&& (255 : Int32))), .unset, .unset, .unset, .unset, .unset, .unset, .unset, .unset, .unset, .unset] [(.int p1)])) (fun t kt => XS.iloadN X.here hx rfl (hb hby at_34) rfl kt) ?_
  refine Go.st (S' := T.setTop (mkF m 37 #[.val (.int p0), .val (.int p1), .val (.int p2), .val (.int p3), .val (.int p4), .val (.int (p0 &&& (3 : Int32))), .val (.int ((XT.ushr p0 (2 : Int32)) &&& (3 : Int32))), .val (.int ((XT.ushr p0 (4 : Int32)) &&& (3 : Int32))), .val (.int ((XT.ushr p0 (6 : Int32)) &&& (3 : Int32))), .val (.int (p1 &&& (255 : Int32))), .unset, .unset, .unset, .unset, .unset, .unset, .unset, .unset, .unset, .unset] [(.int (8 : Int32)), (.int p1)])) (fun t kt => XT.bipushV X.here hx rfl (8 : Int32) (hb hby at_35) (by decide) kt) ?_
  refine Go.st (S' := T.setTop (mkF m 38 #[.val (.int p0), .val (.int p1), .val (.int p2), .val (.int p3), .val (.int p4), .val (.int (p0 &&& (3 : Int32))), .val (.int ((XT.ushr p0 (2 : Int32)) &&& (3 : Int32))), .val (.int ((XT.ushr p0 (4 : Int32)) &&& (3 : Int32))), .val (.int ((XT.ushr p0 (6 : Int32)) &&& (3 : Int32))), .val (.int (p1 &&& (255 : Int32))), .unset, .unset, .unset, .unset, .unset, .unset, .unset, .unset, .unset, .unset] [(.int (XT.ushr p1 (8 : Int32)))])) (fun t kt => XT.iushr X.here hx rfl (hb hby at_37) rfl kt) ?_
  refine Go.st (S' := T.setTop (mkF m 41 #[.val (.int p0), .val (.int p1), .val (.int p2), .val (.int p3), .val (.int p4), .val (.int (p0 &&& (3 : Int32))), .val (.int ((XT.ushr p0 (2 : Int32)) &&& (3 : Int32))), .val (.int ((XT.ushr p0 (4 : Int32)) &&& (3 : Int32))), .val (.int ((XT.ushr p0 (6 : Int32)) &&& (3 : Int32))), .val (.int (p1 &&& (255 : Int32))), .unset, .unset, .unset, .unset, .unset, .unset, .unset, .unset, .unset, .unset] [(.int (255 : Int32)), (.int (XT.ushr p1 (8 : Int32)))])) (fun t kt => XT.sipushV X.here hx rfl (255 : Int32) (hb hby at_38) (by decide) kt) ?_
  refine Go.st (S' := T.setTop (mkF m 42 #[.val (.int p0), .val (.int p1), .val (.int p2), .val (.int p3), .val (.int p4), .val (.int (p0 &&& (3 : Int32))), .val (.int ((XT.ushr p0 (2 : Int32)) &&& (3 : Int32))), .val (.int ((XT.ushr p0 (4 : Int32)) &&& (3 : Int32))), .val (.int ((XT.ushr p0 (6 : Int32)) &&& (3 : Int32))), .val (.int (p1 &&& (255 : Int32))), .unset, .unset, .unset, .unset, .unset, .unset, .unset, .unset, .unset, .unset] [(.int ((XT.ushr p1 (8 : Int32)) &&& (255 : Int32)))])) (fun t kt => XS.iand X.here hx rfl (hb hby at_41) rfl kt) ?_
  refine Go.st (S' := T.setTop (mkF m 44 #[.val (.int p0), .val (.int p1), .val (.int p2), .val (.int p3), .val (.int p4), .val (.int (p0 &&& (3 : Int32))), .val (.int ((XT.ushr p0 (2 : Int32)) &&& (3 : Int32))), .val (.int ((XT.ushr p0 (4 : Int32)) &&& (3 : Int32))), .val (.int ((XT.ushr p0 (6 : Int32)) &&& (3 : Int32))), .val (.int (p1 &&& (255 : Int32))), .val (.int ((XT.ushr p1 (8 : Int32)) &&& (255 : Int32))), .unset, .unset, .unset, .unset, .unset, .unset, .unset, .unset, .unset] [])) (fun t kt => XS.istore X.here hx rfl (hb hby at_42) rfl rfl kt) ?_
  refine Go.st (S' := T.setTop (mkF m 45 #[.val (.int p0), .val (.int p1), .val (.int p2), .val (.int p3), .val (.int p4), .val (.int (p0 &&& (3 : Int32))), .val (.int ((XT.ushr p0 (2 : Int32)) &&& (3 : Int32))), .val (.int ((XT.ushr p0 (4 : Int32)) &&& (3 : Int32))), .val (.int ((XT.ushr p0 (6 : Int32)) &&& (3 : Int32))), .val (.int (p1 &&& (255 : Int32))), .val (.int ((XT.ushr p1 (8 : Int32)) &&& (255 : Int32))), .unset, .unset, .unset, .unset, .unset, .unset, .unset, .unset, .unset] [(.int p1)])) (fun t kt => XS.iloadN X.here hx rfl (hb hby at_44) rfl kt) ?_
  refine Go.st (S' := T.setTop (mkF m 47 #[.val (.int p0), .val (.int p1), .val (.int p2), .val (.int p3), .val (.int p4), .val (.int (p0 &&& (3 : Int32))), .val (.int ((XT.ushr p0 (2 : Int32)) &&& (3 : Int32))), .val (.int ((XT.ushr p0 (4 : Int32)) &&& (3 : Int32))), .val (.int ((XT.ushr p0 (6 : Int32)) &&& (3 : Int32))), .val (.int (p1 &&& (255 : Int32))), .val (.int ((XT.ushr p1 (8 : Int32)) &&& (255 : Int32))), .unset, .unset, .unset, .unset, .unset, .unset, .unset, .unset, .unset] [(.int (16 : Int32)), (.int p1)])) (fun t kt => XT.bipushV X.here hx rfl (16 : Int32) (hb hby at_45) (by decide) kt) ?_
  refine Go.st (S' := T.setTop (mkF m 48 #[.val (.int p0), .val (.int p1), .val (.int p2), .val (.int p3), .val (.int p4), .val (.int (p0 &&& (3 : Int32))), .val (.int ((XT.ushr p0 (2 : Int32)) &&& (3 : Int32))), .val (.int ((XT.ushr p0 (4 : Int32)) &&& (3 : Int32))), .val (.int ((XT.ushr p0 (6 : Int32)) &&& (3 : Int32))), .val (.int (p1 &&& (255 : Int32))), .val (.int ((XT.ushr p1 (8 : Int32)) &&& (255 : Int32))), .unset, .unset, .unset, .unset, .unset, .unset, .unset, .unset, .unset] [(.int (XT.ushr p1 (16 : Int32)))])) (fun t kt => XT.iushr X.here hx rfl (hb hby at_47) rfl kt) ?_
  refine Go.st (S' := T.setTop (mkF m 51 #[.val (.int p0), .val (.int p1), .val (.int p2), .val (.int p3), .val (.int p4), .val (.int (p0 &&& (3 : Int32))), .val (.int ((XT.ushr p0 (2 : Int32)) &&& (3 : Int32))), .val (.int ((XT.ushr p0 (4 : Int32)) &&& (3 : Int32))), .val (.int ((XT.ushr p0 (6 : Int32)) &&& (3 : Int32))), .val (.int (p1 &&& (255 : Int32))), .val (.int ((XT.ushr p1 (8 : Int32)) &&& (255 : Int32))), .unset, .unset, .unset, .unset, .unset, .unset, .unset, .unset, .unset] [(.int (255 : Int32)), (.int (XT.ushr p1 (16 : Int32)))])) (fun t kt => XT.sipushV X.here hx rfl (255 : Int32) (hb hby at_48) (by decide) kt) ?_
  refine Go.st (S' := T.setTop (mkF m 52 #[.val (.int p0), .val (.int p1), .val (.int p2), .val (.int p3), .val (.int p4), .val (.int (p0 &&& (3 : Int32))), .val (.int ((XT.ushr p0 (2 : Int32)) &&& (3 : Int32))), .val (.int ((XT.ushr p0 (4 : Int32)) &&& (3 : Int32))), .val (.int ((XT.ushr p0 (6 : Int32)) &&& (3 : Int32))), .val (.int (p1 &&& (255 : Int32))), .val (.int ((XT.ushr p1 (8 : Int32)) &&& (255 : Int32))), .unset, .unset, .unset, .unset, .unset, .unset, .unset, .unset, .unset] [(.int ((XT.ushr p1 (16 : Int32)) &&& (255 : Int32)))])) (fun t kt => XS.iand X.here hx rfl (hb hby at_51) rfl kt) ?_
  refine Go.st (S' := T.setTop (mkF m 54 #[.val (.int p0), .val (.int p1), .val (.int p2), .val (.int p3), .val (.int p4), .val (.int (p0 &&& (3 : Int32))), .val (.int ((XT.ushr p0 (2 : Int32)) &&& (3 : Int32))), .val (.int ((XT.ushr p0 (4 : Int32)) &&& (3 : Int32))), .val (.int ((XT.ushr p0 (6 : Int32)) &&& (3 : Int32))), .val (.int (p1 &&& (255 : Int32))), .val (.int ((XT.ushr p1 (8 : Int32)) &&& (255 : Int32))), .val (.int ((XT.ushr p1 (16 : Int32)) &&& (255 : Int32))), .unset, .unset, .unset, .unset, .unset, .unset, .unset, .unset] [])) (fun t kt => XS.istore X.here hx rfl (hb hby at_52) rfl rfl kt) ?_
  refine Go.st (S' := T.setTop (mkF m 55 #[.val (.int p0), .val (.int p1), .val (.int p2), .val (.int p3), .val (.int p4), .val (.int (p0 &&& (3 : Int32))), .val (.int ((XT.ushr p0 (2 : Int32)) &&& (3 : Int32))), .val (.int ((XT.ushr p0 (4 : Int32)) &&& (3 : Int32))), .val (.int ((XT.ushr p0 (6 : Int32)) &&& (3 : Int32))), .val (.int (p1 &&& (255 : Int32))), .val (.int ((XT.ushr p1 (8 : Int32)) &&& (255 : Int32))), .val (.int ((XT.ushr p1 (16 : Int32)) &&& (255 : Int32))), .unset, .unset, .unset, .unset, .unset, .unset, .unset, .unset] [(.int p1)])) (fun t kt => XS.iloadN X.here hx rfl (hb hby at_54) rfl kt) ?_
  refine Go.st (S' := T.setTop (mkF m 57 #[.val (.int p0), .val (.int p1), .val (.int p2), .val (.int p3), .val (.int p4), .val (.int (p0 &&& (3 : Int32))), .val (.int ((XT.ushr p0 (2 : Int32)) &&& (3 : Int32))), .val (.int ((XT.ushr p0 (4 : Int32)) &&& (3 : Int32))), .val (.int ((XT.ushr p0 (6 : Int32)) &&& (3 : Int32))), .val (.int (p1 &&& (255 : Int32))), .val (.int ((XT.ushr p1 (8 : Int32)) &&& (255 : Int32))), .val (.int ((XT.ushr p1 (16 : Int32)) &&& (255 : Int32))), .unset, .unset, .unset, .unset, .unset, .unset, .unset, .unset] [(.int (24 : Int32)), (.int p1)])) (fun t kt => XT.bipushV X.here hx rfl (24 : Int32) (hb hby at_55) (by decide) kt) ?_
  refine Go.st (S' := T.setTop (mkF m 58 #[.val (.int p0), .val (.int p1), .val (.int p2), .val (.int p3), .val (.int p4), .val (.int (p0 &&& (3 : Int32))), .val (.int ((XT.ushr p0 (2 : Int32)) &&& (3 : Int32))), .val (.int ((XT.ushr p0 (4 : Int32)) &&& (3 : Int32))), .val (.int ((XT.ushr p0 (6 : Int32)) &&& (3 : Int32))), .val (.int (p1 &&& (255 : Int32))), .val (.int ((XT.ushr p1 (8 : Int32)) &&& (255 : Int32))), .val (.int ((XT.ushr p1 (16 : Int32)) &&& (255 : Int32))), .unset, .unset, .unset, .unset, .unset, .unset, .unset, .unset] [(.int (XT.ushr p1 (24 : Int32)))])) (fun t kt => XT.iushr X.here hx rfl (hb hby at_57) rfl kt) ?_
  refine Go.st (S' := T.setTop (mkF m 61 #[.val (.int p0), .val (.int p1), .val (.int p2), .val (.int p3), .val (.int p4), .val (.int (p0 &&& (3 : Int32))), .val (.int ((XT.ushr p0 (2 : Int32)) &&& (3 : Int32))), .val (.int ((XT.ushr p0 (4 : Int32)) &&& (3 : Int32))), .val (.int ((XT.ushr p0 (6 : Int32)) &&& (3 : Int32))), .val (.int (p1 &&& (255 : Int32))), .val (.int ((XT.ushr p1 (8 : Int32)) &&& (255 : Int32))), .val (.int ((XT.ushr p1 (16 : Int32)) &&& (255 : Int32))), .unset, .unset, .unset, .unset, .unset, .unset, .unset, .unset] [(.int (255 : Int32)), (.int (XT.ushr p1 (24 : Int32)))])) (fun t kt => XT.sipushV X.here hx rfl (255 : Int32) (hb hby at_58) (by decide) kt) ?_
  refine Go.st (S' := T.setTop (mkF m 62 #[.val (.int p0), .val (.int p1), .val (.int p2), .val (.int p3), .val (.int p4), .val (.int (p0 &&& (3 : Int32))), .val (.int ((XT.ushr p0 (2 : Int32)) &&& (3 : Int32))), .val (.int ((XT.ushr p0 (4 : Int32)) &&& (3 : Int32))), .val (.int ((XT.ushr p0 (6 : Int32)) &&& (3 : Int32))), .val (.int (p1 &&& (255 : Int32))), .val (.int ((XT.ushr p1 (8 : Int32)) &&& (255 : Int32))), .val (.int ((XT.ushr p1 (16 : Int32)) &&& (255 : Int32))), .unset, .unset, .unset, .unset, .unset, .unset, .unset, .unset] [(.int ((XT.ushr p1 (24 : Int32)) &&& (255 : Int32)))])) (fun t kt => XS.iand X.here hx rfl (hb hby at_61) rfl kt) ?_
  refine Go.st (S' := T.setTop (mkF m 64 #[.val (.int p0), .val (.int p1), .val (.int p2), .val (.int p3), .val (.int p4), .val (.int (p0 &&& (3 : Int32))), .val (.int ((XT.ushr p0 (2 : Int32)) &&& (3 : Int32))), .val (.int ((XT.ushr p0 (4 : Int32)) &&& (3 : Int32))), .val (.int ((XT.ushr p0 (6 : Int32)) &&& (3 : Int32))), .val (.int (p1 &&& (255 : Int32))), .val (.int ((XT.ushr p1 (8 : Int32)) &&& (255 : Int32))), .val (.int ((XT.ushr p1 (16 : Int32)) &&& (255 : Int32))), .val (.int ((XT.ushr p1 (24 : Int32)) &&& (255 : Int32))), .unset, .unset, .unset, .unset, .unset, .unset, .unset] [])) (fun t kt => XS.istore X.here hx rfl (hb hby at_62) rfl rfl kt) ?_
  refine Go.st (S' := T.setTop (mkF m 65 #[.val (.int p0), .val (.int p1), .val (.int p2), .val (.int p3), .val (.int p4), .val (.int (p0 &&& (3 : Int32))), .val (.int ((XT.ushr p0 (2 : Int32)) &&& (3 : Int32))), .val (.int ((XT.ushr p0 (4 : Int32)) &&& (3 : Int32))), .val (.int ((XT.ushr p0 (6 : Int32)) &&& (3 : Int32))), .val (.int (p1 &&& (255 : Int32))), .val (.int ((XT.ushr p1 (8 : Int32)) &&& (255 : Int32))), .val (.int ((XT.ushr p1 (16 : Int32)) &&& (255 : Int32))), .val (.int ((XT.ushr p1 (24 : Int32)) &&& (255 : Int32))), .unset, .unset, .unset, .unset, .unset, .unset, .unset] [(.int p2)])) (fun t kt => XS.iloadN X.here hx rfl (hb hby at_64) rfl kt) ?_
  refine Go.st (S' := T.setTop (mkF m 67 #[.val (.int p0), .val (.int p1), .val (.int p2), .val (.int p3), .val (.int p4), .val (.int (p0 &&& (3 : Int32))), .val (.int ((XT.ushr p0 (2 : Int32)) &&& (3 : Int32))), .val (.int ((XT.ushr p0 (4 : Int32)) &&& (3 : Int32))), .val (.int ((XT.ushr p0 (6 : Int32)) &&& (3 : Int32))), .val (.int (p1 &&& (255 : Int32))), .val (.int ((XT.ushr p1 (8 : Int32)) &&& (255 : Int32))), .val (.int ((XT.ushr p1 (16 : Int32)) &&& (255 : Int32))), .val (.int ((XT.ushr p1 (24 : Int32)) &&& (255 : Int32))), .unset, .unset, .unset, .unset, .unset, .unset, .unset] [(.int (p1 &&& (255 : Int32))), (.int p2)])) (fun t kt => XS.iload X.here hx rfl (hb hby at_65) rfl kt) ?_
  refine Go.stat X hx hZ hown (hw _ (List.mem_of_getElem? (i := 0) rfl)) (hw _ (List.mem_of_getElem? (i := 1) rfl)) (hw _ (List.mem_of_getElem? (i := 2) rfl)) (hw _ (List.mem_of_getElem? (i := 3) rfl)) (by decide) (argsL := [(.int p2), (.int (p1 &&& (255 : Int32)))]) (rest := []) (rmPK l Z a0 hw p2 (p1 &&& (255 : Int32)) h0 n0 Z0 ⟨_, rfl⟩) eT rfl (by rw [hml]; rfl) pd__II_I rfl (hb hby at_67) 0 (Nat.le_refl _) (by decide) (by decide) (by decide) (by decide) ?_
  intro v1 T1 L1 X1 hQ1
  obtain ⟨r1, hv1, N1', e1, lo1⟩ := hQ1
  subst hv1
  have N1 := Fr.app N0 N1'
  show Go pP eE below _ (T1.setTop (mkF m 70 #[.val (.int p0), .val (.int p1), .val (.int p2), .val (.int p3), .val (.int p4), .val (.int (p0 &&& (3 : Int32))), .val (.int ((XT.ushr p0 (2 : Int32)) &&& (3 : Int32))), .val (.int ((XT.ushr p0 (4 : Int32)) &&& (3 : Int32))), .val (.int ((XT.ushr p0 (6 : Int32)) &&& (3 : Int32))), .val (.int (p1 &&& (255 : Int32))), .val (.int ((XT.ushr p1 (8 : Int32)) &&& (255 : Int32))), .val (.int ((XT.ushr p1 (16 : Int32)) &&& (255 : Int32))), .val (.int ((XT.ushr p1 (24 : Int32)) &&& (255 : Int32))), .unset, .unset, .unset, .unset, .unset, .unset, .unset] [(.int r1)]))
  refine Go.st (S' := T1.setTop (mkF m 72 #[.val (.int p0), .val (.int p1), .val (.int p2), .val (.int p3), .val (.int p4), .val (.int (p0 &&& (3 : Int32))), .val (.int ((XT.ushr p0 (2 : Int32)) &&& (3 : Int32))), .val (.int ((XT.ushr p0 (4 : Int32)) &&& (3 : Int32))), .val (.int ((XT.ushr p0 (6 : Int32)) &&& (3 : Int32))), .val (.int (p1 &&& (255 : Int32))), .val (.int ((XT.ushr p1 (8 : Int32)) &&& (255 : Int32))), .val (.int ((XT.ushr p1 (16 : Int32)) &&& (255 : Int32))), .val (.int ((XT.ushr p1 (24 : Int32)) &&& (255 : Int32))), .val (.int r1), .unset, .unset, .unset, .unset, .unset, .unset] [])) (fun t kt => XS.istore X1.here hx rfl (hb hby at_70) rfl rfl kt) ?_
  refine Go.st (S' := T1.setTop (mkF m 73 #[.val (.int p0), .val (.int p1), .val (.int p2), .val (.int p3), .val (.int p4), .val (.int (p0 &&& (3 : Int32))), .val (.int ((XT.ushr p0 (2 : Int32)) &&& (3 : Int32))), .val (.int ((XT.ushr p0 (4 : Int32)) &&& (3 : Int32))), .val (.int ((XT.ushr p0 (6 : Int32)) &&& (3 : Int32))), .val (.int (p1 &&& (255 : Int32))), .val (.int ((XT.ushr p1 (8 : Int32)) &&& (255 : Int32))), .val (.int ((XT.ushr p1 (16 : Int32)) &&& (255 : Int32))), .val (.int ((XT.ushr p1 (24 : Int32)) &&& (255 : Int32))), .val (.int r1), .unset, .unset, .unset, .unset, .unset, .unset] [(.int p2)])) (fun t kt => XS.iloadN X1.here hx rfl (hb hby at_72) rfl kt) ?_
  refine Go.st (S' := T1.setTop (mkF m 75 #[.val (.int p0), .val (.int p1), .val (.int p2), .val (.int p3), .val (.int p4), .val (.int (p0 &&& (3 : Int32))), .val (.int ((XT.ushr p0 (2 : Int32)) &&& (3 : Int32))), .val (.int ((XT.ushr p0 (4 : Int32)) &&& (3 : Int32))), .val (.int ((XT.ushr p0 (6 : Int32)) &&& (3 : Int32))), .val (.int (p1 &&& (255 : Int32))), .val (.int ((XT.ushr p1 (8 : Int32)) &&& (255 : Int32))), .val (.int ((XT.ushr p1 (16 : Int32)) &&& (255 : Int32))), .val (.int ((XT.ushr p1 (24 : Int32)) &&& (255 : Int32))), .val (.int r1), .unset, .unset, .unset, .unset, .unset, .unset] [(.int (9 : Int32)), (.int p2)])) (fun t kt => XT.bipushV X1.here hx rfl (9 : Int32) (hb hby at_73) (by decide) kt) ?_
  refine Go.st (S' := T1.setTop (mkF m 76 #[.val (.int p0), .val (.int p1), .val (.int p2), .val (.int p3), .val (.int p4), .val (.int (p0 &&& (3 : Int32))), .val (.int ((XT.ushr p0 (2 : Int32)) &&& (3 : Int32))), .val (.int ((XT.ushr p0 (4 : Int32)) &&& (3 : Int32))), .val (.int ((XT.ushr p0 (6 : Int32)) &&& (3 : Int32))), .val (.int (p1 &&& (255 : Int32))), .val (.int ((XT.ushr p1 (8 : Int32)) &&& (255 : Int32))), .val (.int ((XT.ushr p1 (16 : Int32)) &&& (255 : Int32))), .val (.int ((XT.ushr p1 (24 : Int32)) &&& (255 : Int32))), .val (.int r1), .unset, .unset, .unset, .unset, .unset, .unset] [(.int (XT.ushr p2 (9 : Int32)))])) (fun t kt => XT.iushr X1.here hx rfl (hb hby at_75) rfl kt) ?_
  refine Go.st (S' := T1.setTop (mkF m 78 #[.val (.int p0), .val (.int p1), .val (.int p2), .val (.int p3), .val (.int p4), .val (.int (p0 &&& (3 : Int32))), .val (.int ((XT.ushr p0 (2 : Int32)) &&& (3 : Int32))), .val (.int ((XT.ushr p0 (4 : Int32)) &&& (3 : Int32))), .val (.int ((XT.ushr p0 (6 : Int32)) &&& (3 : Int32))), .val (.int (p1 &&& (255 : Int32))), .val (.int ((XT.ushr p1 (8 : Int32)) &&& (255 : Int32))), .val (.int ((XT.ushr p1 (16 : Int32)) &&& (255 : Int32))), .val (.int ((XT.ushr p1 (24 : Int32)) &&& (255 : Int32))), .val (.int r1), .unset, .unset, .unset, .unset, .unset, .unset] [(.int ((XT.ushr p1 (8 : Int32)) &&& (255 : Int32))), (.int (XT.ushr p2 (9 : Int32)))])) (fun t kt => XS.iload X1.here hx rfl (hb hby at_76) rfl kt) ?_
  refine Go.stat X1 hx hZ hown (hw _ (List.mem_of_getElem? (i := 0) rfl)) (hw _ (List.mem_of_getElem? (i := 1) rfl)) (hw _ (List.mem_of_getElem? (i := 2) rfl)) (hw _ (List.mem_of_getElem? (i := 3) rfl)) (by decide) (argsL := [(.int (XT.ushr p2 (9 : Int32))), (.int ((XT.ushr p1 (8 : Int32)) &&& (255 : Int32)))]) (rest := []) (rmPK l Z a0 hw (XT.ushr p2 (9 : Int32)) ((XT.ushr p1 (8 : Int32)) &&& (255 : Int32)) h0 n0 Z0 ⟨_, rfl⟩) e1 rfl (by rw [hml]; rfl) pd__II_I rfl (hb hby at_78) 0 (Nat.le_refl _) (by decide) (by decide) (by decide) (by decide) ?_
  intro v2 T2 L2 X2 hQ2
  obtain ⟨r2, hv2, N2', e2, lo2⟩ := hQ2
  subst hv2
  have N2 := Fr.app N1 N2'
  show Go pP eE below _ (T2.setTop (mkF m 81 #[.val (.int p0), .val (.int p1), .val (.int p2), .val (.int p3), .val (.int p4), .val (.int (p0 &&& (3 : Int32))), .val (.int ((XT.ushr p0 (2 : Int32)) &&& (3 : Int32))), .val (.int ((XT.ushr p0 (4 : Int32)) &&& (3 : Int32))), .val (.int ((XT.ushr p0 (6 : Int32)) &&& (3 : Int32))), .val (.int (p1 &&& (255 : Int32))), .val (.int ((XT.ushr p1 (8 : Int32)) &&& (255 : Int32))), .val (.int ((XT.ushr p1 (16 : Int32)) &&& (255 : Int32))), .val (.int ((XT.ushr p1 (24 : Int32)) &&& (255 : Int32))), .val (.int r1), .unset, .unset, .unset, .unset, .unset, .unset] [(.int r2)]))
  refine Go.st (S' := T2.setTop (mkF m 83 #[.val (.int p0), .val (.int p1), .val (.int p2), .val (.int p3), .val (.int p4), .val (.int (p0 &&& (3 : Int32))), .val (.int ((XT.ushr p0 (2 : Int32)) &&& (3 : Int32))), .val (.int ((XT.ushr p0 (4 : Int32)) &&& (3 : Int32))), .val (.int ((XT.ushr p0 (6 : Int32)) &&& (3 : Int32))), .val (.int (p1 &&& (255 : Int32))), .val (.int ((XT.ushr p1 (8 : Int32)) &&& (255 : Int32))), .val (.int ((XT.ushr p1 (16 : Int32)) &&& (255 : Int32))), .val (.int ((XT.ushr p1 (24 : Int32)) &&& (255 : Int32))), .val (.int r1), .val (.int r2), .unset, .unset, .unset, .unset, .unset] [])) (fun t kt => XS.istore X2.here hx rfl (hb hby at_81) rfl rfl kt) ?_
  refine Go.st (S' := T2.setTop (mkF m 84 #[.val (.int p0), .val (.int p1), .val (.int p2), .val (.int p3), .val (.int p4), .val (.int (p0 &&& (3 : Int32))), .val (.int ((XT.ushr p0 (2 : Int32)) &&& (3 : Int32))), .val (.int ((XT.ushr p0 (4 : Int32)) &&& (3 : Int32))), .val (.int ((XT.ushr p0 (6 : Int32)) &&& (3 : Int32))), .val (.int (p1 &&& (255 : Int32))), .val (.int ((XT.ushr p1 (8 : Int32)) &&& (255 : Int32))), .val (.int ((XT.ushr p1 (16 : Int32)) &&& (255 : Int32))), .val (.int ((XT.ushr p1 (24 : Int32)) &&& (255 : Int32))), .val (.int r1), .val (.int r2), .unset, .unset, .unset, .unset, .unset] [(.int p3)])) (fun t kt => XS.iloadN X2.here hx rfl (hb hby at_83) rfl kt) ?_
  refine Go.st (S' := T2.setTop (mkF m 86 #[.val (.int p0), .val (.int p1), .val (.int p2), .val (.int p3), .val (.int p4), .val (.int (p0 &&& (3 : Int32))), .val (.int ((XT.ushr p0 (2 : Int32)) &&& (3 : Int32))), .val (.int ((XT.ushr p0 (4 : Int32)) &&& (3 : Int32))), .val (.int ((XT.ushr p0 (6 : Int32)) &&& (3 : Int32))), .val (.int (p1 &&& (255 : Int32))), .val (.int ((XT.ushr p1 (8 : Int32)) &&& (255 : Int32))), .val (.int ((XT.ushr p1 (16 : Int32)) &&& (255 : Int32))), .val (.int ((XT.ushr p1 (24 : Int32)) &&& (255 : Int32))), .val (.int r1), .val (.int r2), .unset, .unset, .unset, .unset, .unset] [(.int ((XT.ushr p1 (16 : Int32)) &&& (255 : Int32))), (.int p3)])) (fun t kt => XS.iload X2.here hx rfl (hb hby at_84) rfl kt) ?_
  refine Go.stat X2 hx hZ hown (hw _ (List.mem_of_getElem? (i := 0) rfl)) (hw _ (List.mem_of_getElem? (i := 1) rfl)) (hw _ (List.mem_of_getElem? (i := 2) rfl)) (hw _ (List.mem_of_getElem? (i := 3) rfl)) (by decide) (argsL := [(.int p3), (.int ((XT.ushr p1 (16 : Int32)) &&& (255 : Int32)))]) (rest := []) (rmPK l Z a0 hw p3 ((XT.ushr p1 (16 : Int32)) &&& (255 : Int32)) h0 n0 Z0 ⟨_, rfl⟩) e2 rfl (by rw [hml]; rfl) pd__II_I rfl (hb hby at_86) 0 (Nat.le_refl _) (by decide) (by decide) (by decide) (by decide) ?_
  intro v3 T3 L3 X3 hQ3
  obtain ⟨r3, hv3, N3', e3, lo3⟩ := hQ3
  subst hv3
  have N3 := Fr.app N2 N3'
  show Go pP eE below _ (T3.setTop (mkF m 89 #[.val (.int p0), .val (.int p1), .val (.int p2), .val (.int p3), .val (.int p4), .val (.int (p0 &&& (3 : Int32))), .val (.int ((XT.ushr p0 (2 : Int32)) &&& (3 : Int32))), .val (.int ((XT.ushr p0 (4 : Int32)) &&& (3 : Int32))), .val (.int ((XT.ushr p0 (6 : Int32)) &&& (3 : Int32))), .val (.int (p1 &&& (255 : Int32))), .val (.int ((XT.ushr p1 (8 : Int32)) &&& (255 : Int32))), .val (.int ((XT.ushr p1 (16 : Int32)) &&& (255 : Int32))), .val (.int ((XT.ushr p1 (24 : Int32)) &&& (255 : Int32))), .val (.int r1), .val (.int r2), .unset, .unset, .unset, .unset, .unset] [(.int r3)]))
  refine Go.st (S' := T3.setTop (mkF m 91 #[.val (.int p0), .val (.int p1), .val (.int p2), .val (.int p3), .val (.int p4), .val (.int (p0 &&& (3 : Int32))), .val (.int ((XT.ushr p0 (2 : Int32)) &&& (3 : Int32))), .val (.int ((XT.ushr p0 (4 : Int32)) &&& (3 : Int32))), .val (.int ((XT.ushr p0 (6 : Int32)) &&& (3 : Int32))), .val (.int (p1 &&& (255 : Int32))), .val (.int ((XT.ushr p1 (8 : Int32)) &&& (255 : Int32))), .val (.int ((XT.ushr p1 (16 : Int32)) &&& (255 : Int32))), .val (.int ((XT.ushr p1 (24 : Int32)) &&& (255 : Int32))), .val (.int r1), .val (.int r2), .val (.int r3), .unset, .unset, .unset, .unset] [])) (fun t kt => XS.istore X3.here hx rfl (hb hby at_89) rfl rfl kt) ?_
  refine Go.st (S' := T3.setTop (mkF m 92 #[.val (.int p0), .val (.int p1), .val (.int p2), .val (.int p3), .val (.int p4), .val (.int (p0 &&& (3 : Int32))), .val (.int ((XT.ushr p0 (2 : Int32)) &&& (3 : Int32))), .val (.int ((XT.ushr p0 (4 : Int32)) &&& (3 : Int32))), .val (.int ((XT.ushr p0 (6 : Int32)) &&& (3 : Int32))), .val (.int (p1 &&& (255 : Int32))), .val (.int ((XT.ushr p1 (8 : Int32)) &&& (255 : Int32))), .val (.int ((XT.ushr p1 (16 : Int32)) &&& (255 : Int32))), .val (.int ((XT.ushr p1 (24 : Int32)) &&& (255 : Int32))), .val (.int r1), .val (.int r2), .val (.int r3), .unset, .unset, .unset, .unset] [(.int p3)])) (fun t kt => XS.iloadN X3.here hx rfl (hb hby at_91) rfl kt) ?_
  refine Go.st (S' := T3.setTop (mkF m 94 #[.val (.int p0), .val (.int p1), .val (.int p2), .val (.int p3), .val (.int p4), .val (.int (p0 &&& (3 : Int32))), .val (.int ((XT.ushr p0 (2 : Int32)) &&& (3 : Int32))), .val (.int ((XT.ushr p0 (4 : Int32)) &&& (3 : Int32))), .val (.int ((XT.ushr p0 (6 : Int32)) &&& (3 : Int32))), .val (.int (p1 &&& (255 : Int32))), .val (.int ((XT.ushr p1 (8 : Int32)) &&& (255 : Int32))), .val (.int ((XT.ushr p1 (16 : Int32)) &&& (255 : Int32))), .val (.int ((XT.ushr p1 (24 : Int32)) &&& (255 : Int32))), .val (.int r1), .val (.int r2), .val (.int r3), .unset, .unset, .unset, .unset] [(.int (9 : Int32)), (.int p3)])) (fun t kt => XT.bipushV X3.here hx rfl (9 : Int32) (hb hby at_92) (by decide) kt) ?_
  refine Go.st (S' := T3.setTop (mkF m 95 #[.val (.int p0), .val (.int p1), .val (.int p2), .val (.int p3), .val (.int p4), .val (.int (p0 &&& (3 : Int32))), .val (.int ((XT.ushr p0 (2 : Int32)) &&& (3 : Int32))), .val (.int ((XT.ushr p0 (4 : Int32)) &&& (3 : Int32))), .val (.int ((XT.ushr p0 (6 : Int32)) &&& (3 : Int32))), .val (.int (p1 &&& (255 : Int32))), .val (.int ((XT.ushr p1 (8 : Int32)) &&& (255 : Int32))), .val (.int ((XT.ushr p1 (16 : Int32)) &&& (255 : Int32))), .val (.int ((XT.ushr p1 (24 : Int32)) &&& (255 : Int32))), .val (.int r1), .val (.int r2), .val (.int r3), .unset, .unset, .unset, .unset] [(.int (XT.ushr p3 (9 : Int32)))])) (fun t kt => XT.iushr X3.here hx rfl (hb hby at_94) rfl kt) ?_
  refine Go.st (S' := T3.setTop (mkF m 97 #[.val (.int p0), .val (.int p1), .val (.int p2), .val (.int p3), .val (.int p4), .val (.int (p0 &&& (3 : Int32))), .val (.int ((XT.ushr p0 (2 : Int32)) &&& (3 : Int32))), .val (.int ((XT.ushr p0 (4 : Int32)) &&& (3 : Int32))), .val (.int ((XT.ushr p0 (6 : Int32)) &&& (3 : Int32))), .val (.int (p1 &&& (255 : Int32))), .val (.int ((XT.ushr p1 (8 : Int32)) &&& (255 : Int32))), .val (.int ((XT.ushr p1 (16 : Int32)) &&& (255 : Int32))), .val (.int ((XT.ushr p1 (24 : Int32)) &&& (255 : Int32))), .val (.int r1), .val (.int r2), .val (.int r3), .unset, .unset, .unset, .unset] [(.int ((XT.ushr p1 (24 : Int32)) &&& (255 : Int32))), (.int (XT.ushr p3 (9 : Int32)))])) (fun t kt => XS.iload X3.here hx rfl (hb hby at_95) rfl kt) ?_
  refine Go.stat X3 hx hZ hown (hw _ (List.mem_of_getElem? (i := 0) rfl)) (hw _ (List.mem_of_getElem? (i := 1) rfl)) (hw _ (List.mem_of_getElem? (i := 2) rfl)) (hw _ (List.mem_of_getElem? (i := 3) rfl)) (by decide) (argsL := [(.int (XT.ushr p3 (9 : Int32))), (.int ((XT.ushr p1 (24 : Int32)) &&& (255 : Int32)))]) (rest := []) (rmPK l Z a0 hw (XT.ushr p3 (9 : Int32)) ((XT.ushr p1 (24 : Int32)) &&& (255 : Int32)) h0 n0 Z0 ⟨_, rfl⟩) e3 rfl (by rw [hml]; rfl) pd__II_I rfl (hb hby at_97) 0 (Nat.le_refl _) (by decide) (by decide) (by decide) (by decide) ?_
  intro v4 T4 L4 X4 hQ4
  obtain ⟨r4, hv4, N4', e4, lo4⟩ := hQ4
  subst hv4
  have N4 := Fr.app N3 N4'
  show Go pP eE below _ (T4.setTop (mkF m 100 #[.val (.int p0), .val (.int p1), .val (.int p2), .val (.int p3), .val (.int p4), .val (.int (p0 &&& (3 : Int32))), .val (.int ((XT.ushr p0 (2 : Int32)) &&& (3 : Int32))), .val (.int ((XT.ushr p0 (4 : Int32)) &&& (3 : Int32))), .val (.int ((XT.ushr p0 (6 : Int32)) &&& (3 : Int32))), .val (.int (p1 &&& (255 : Int32))), .val (.int ((XT.ushr p1 (8 : Int32)) &&& (255 : Int32))), .val (.int ((XT.ushr p1 (16 : Int32)) &&& (255 : Int32))), .val (.int ((XT.ushr p1 (24 : Int32)) &&& (255 : Int32))), .val (.int r1), .val (.int r2), .val (.int r3), .unset, .unset, .unset, .unset] [(.int r4)]))
  refine Go.st (S' := T4.setTop (mkF m 102 #[.val (.int p0), .val (.int p1), .val (.int p2), .val (.int p3), .val (.int p4), .val (.int (p0 &&& (3 : Int32))), .val (.int ((XT.ushr p0 (2 : Int32)) &&& (3 : Int32))), .val (.int ((XT.ushr p0 (4 : Int32)) &&& (3 : Int32))), .val (.int ((XT.ushr p0 (6 : Int32)) &&& (3 : Int32))), .val (.int (p1 &&& (255 : Int32))), .val (.int ((XT.ushr p1 (8 : Int32)) &&& (255 : Int32))), .val (.int ((XT.ushr p1 (16 : Int32)) &&& (255 : Int32))), .val (.int ((XT.ushr p1 (24 : Int32)) &&& (255 : Int32))), .val (.int r1), .val (.int r2), .val (.int r3), .val (.int r4), .unset, .unset, .unset] [])) (fun t kt => XS.istore X4.here hx rfl (hb hby at_100) rfl rfl kt) ?_
  obtain ⟨T5, h5, X5, e5, E5, A5, D5, -, st5⟩ := newO X4 hx hZ hown (hw _ (List.mem_of_getElem? (i := 4) rfl)) (hw _ (List.mem_of_getElem? (i := 5) rfl)) (hw _ (List.mem_of_getElem? (i := 6) rfl)) e4 (g := (mkF m 102 #[.val (.int p0), .val (.int p1), .val (.int p2), .val (.int p3), .val (.int p4), .val (.int (p0 &&& (3 : Int32))), .val (.int ((XT.ushr p0 (2 : Int32)) &&& (3 : Int32))), .val (.int ((XT.ushr p0 (4 : Int32)) &&& (3 : Int32))), .val (.int ((XT.ushr p0 (6 : Int32)) &&& (3 : Int32))), .val (.int (p1 &&& (255 : Int32))), .val (.int ((XT.ushr p1 (8 : Int32)) &&& (255 : Int32))), .val (.int ((XT.ushr p1 (16 : Int32)) &&& (255 : Int32))), .val (.int ((XT.ushr p1 (24 : Int32)) &&& (255 : Int32))), .val (.int r1), .val (.int r2), .val (.int r3), .val (.int r4), .unset, .unset, .unset] [])) rfl (hb hby at_102) (by decide) (by decide)
  obtain ⟨a5, g5⟩ : ∃ z, z = h0.size := ⟨_, rfl⟩
  rw [← g5] at A5 D5 st5
  have Z5 : n0 ≤ h5.size := Nat.le_trans Z0 E5.1
  have S5 : Safe Z own_EL sS.vm h0 a5 := Safe.new (Nat.le_of_eq g5.symm)
  have C5 := CHr.trans C0 (CHr.ext E5 C0.1)
  have hk := Nat.le_trans hk E5.1
  have F5_descendants : Fld Z h5 a5 "com/example/sunder/sunder/query/Step" "descendants" "Z" (.int (0 : Int32)) := D5 (Or.inr (hw _ (List.mem_of_getElem? (i := 28) rfl))) (ty := .boolean) (by decide)
  have F5_kind : Fld Z h5 a5 "com/example/sunder/sunder/query/Step" "kind" "Lcom/example/sunder/sunder/query/Step$Kind;" .null := D5 (Or.inr (hw _ (List.mem_of_getElem? (i := 30) rfl))) (ty := (.object "com/example/sunder/sunder/query/Step$Kind")) (by decide)
  have F5_namespaceUri : Fld Z h5 a5 "com/example/sunder/sunder/query/Step" "namespaceUri" "Ljava/lang/String;" .null := D5 (Or.inr (hw _ (List.mem_of_getElem? (i := 32) rfl))) (ty := (.object "java/lang/String")) (by decide)
  have F5_localName : Fld Z h5 a5 "com/example/sunder/sunder/query/Step" "localName" "Ljava/lang/String;" .null := D5 (Or.inr (hw _ (List.mem_of_getElem? (i := 34) rfl))) (ty := (.object "java/lang/String")) (by decide)
  have F5_predicates : Fld Z h5 a5 "com/example/sunder/sunder/query/Step" "predicates" "Ljava/util/List;" .null := D5 (Or.inr (hw _ (List.mem_of_getElem? (i := 36) rfl))) (ty := (.object "java/util/List")) (by decide)
  refine Go.st (S' := T5.setTop (mkF m 105 #[.val (.int p0), .val (.int p1), .val (.int p2), .val (.int p3), .val (.int p4), .val (.int (p0 &&& (3 : Int32))), .val (.int ((XT.ushr p0 (2 : Int32)) &&& (3 : Int32))), .val (.int ((XT.ushr p0 (4 : Int32)) &&& (3 : Int32))), .val (.int ((XT.ushr p0 (6 : Int32)) &&& (3 : Int32))), .val (.int (p1 &&& (255 : Int32))), .val (.int ((XT.ushr p1 (8 : Int32)) &&& (255 : Int32))), .val (.int ((XT.ushr p1 (16 : Int32)) &&& (255 : Int32))), .val (.int ((XT.ushr p1 (24 : Int32)) &&& (255 : Int32))), .val (.int r1), .val (.int r2), .val (.int r3), .val (.int r4), .unset, .unset, .unset] [(.ref a5)])) (fun t kt => st5 t kt) ?_
  refine Go.st (S' := T5.setTop (mkF m 106 #[.val (.int p0), .val (.int p1), .val (.int p2), .val (.int p3), .val (.int p4), .val (.int (p0 &&& (3 : Int32))), .val (.int ((XT.ushr p0 (2 : Int32)) &&& (3 : Int32))), .val (.int ((XT.ushr p0 (4 : Int32)) &&& (3 : Int32))), .val (.int ((XT.ushr p0 (6 : Int32)) &&& (3 : Int32))), .val (.int (p1 &&& (255 : Int32))), .val (.int ((XT.ushr p1 (8 : Int32)) &&& (255 : Int32))), .val (.int ((XT.ushr p1 (16 : Int32)) &&& (255 : Int32))), .val (.int ((XT.ushr p1 (24 : Int32)) &&& (255 : Int32))), .val (.int r1), .val (.int r2), .val (.int r3), .val (.int r4), .unset, .unset, .unset] [(.ref a5), (.ref a5)])) (fun t kt => XS.dup X5.here hx rfl (hb hby at_105) rfl rfl kt) ?_
  refine Go.st (S' := T5.setTop (mkF m 108 #[.val (.int p0), .val (.int p1), .val (.int p2), .val (.int p3), .val (.int p4), .val (.int (p0 &&& (3 : Int32))), .val (.int ((XT.ushr p0 (2 : Int32)) &&& (3 : Int32))), .val (.int ((XT.ushr p0 (4 : Int32)) &&& (3 : Int32))), .val (.int ((XT.ushr p0 (6 : Int32)) &&& (3 : Int32))), .val (.int (p1 &&& (255 : Int32))), .val (.int ((XT.ushr p1 (8 : Int32)) &&& (255 : Int32))), .val (.int ((XT.ushr p1 (16 : Int32)) &&& (255 : Int32))), .val (.int ((XT.ushr p1 (24 : Int32)) &&& (255 : Int32))), .val (.int r1), .val (.int r2), .val (.int r3), .val (.int r4), .unset, .unset, .unset] [(.int p4), (.ref a5), (.ref a5)])) (fun t kt => XS.iload X5.here hx rfl (hb hby at_106) rfl kt) ?_
  refine Go.st (S' := T5.setTop (mkF m 109 #[.val (.int p0), .val (.int p1), .val (.int p2), .val (.int p3), .val (.int p4), .val (.int (p0 &&& (3 : Int32))), .val (.int ((XT.ushr p0 (2 : Int32)) &&& (3 : Int32))), .val (.int ((XT.ushr p0 (4 : Int32)) &&& (3 : Int32))), .val (.int ((XT.ushr p0 (6 : Int32)) &&& (3 : Int32))), .val (.int (p1 &&& (255 : Int32))), .val (.int ((XT.ushr p1 (8 : Int32)) &&& (255 : Int32))), .val (.int ((XT.ushr p1 (16 : Int32)) &&& (255 : Int32))), .val (.int ((XT.ushr p1 (24 : Int32)) &&& (255 : Int32))), .val (.int r1), .val (.int r2), .val (.int r3), .val (.int r4), .unset, .unset, .unset] [(.int (4 : Int32)), (.int p4), (.ref a5), (.ref a5)])) (fun t kt => XS.iconst X5.here hx rfl (hb hby at_108) kt) ?_
  refine Go.st (S' := T5.setTop (mkF m 110 #[.val (.int p0), .val (.int p1), .val (.int p2), .val (.int p3), .val (.int p4), .val (.int (p0 &&& (3 : Int32))), .val (.int ((XT.ushr p0 (2 : Int32)) &&& (3 : Int32))), .val (.int ((XT.ushr p0 (4 : Int32)) &&& (3 : Int32))), .val (.int ((XT.ushr p0 (6 : Int32)) &&& (3 : Int32))), .val (.int (p1 &&& (255 : Int32))), .val (.int ((XT.ushr p1 (8 : Int32)) &&& (255 : Int32))), .val (.int ((XT.ushr p1 (16 : Int32)) &&& (255 : Int32))), .val (.int ((XT.ushr p1 (24 : Int32)) &&& (255 : Int32))), .val (.int r1), .val (.int r2), .val (.int r3), .val (.int r4), .unset, .unset, .unset] [(.int (XT.ushr p4 (4 : Int32))), (.ref a5), (.ref a5)])) (fun t kt => XT.iushr X5.here hx rfl (hb hby at_109) rfl kt) ?_
  refine Go.st (S' := T5.setTop (mkF m 111 #[.val (.int p0), .val (.int p1), .val (.int p2), .val (.int p3), .val (.int p4), .val (.int (p0 &&& (3 : Int32))), .val (.int ((XT.ushr p0 (2 : Int32)) &&& (3 : Int32))), .val (.int ((XT.ushr p0 (4 : Int32)) &&& (3 : Int32))), .val (.int ((XT.ushr p0 (6 : Int32)) &&& (3 : Int32))), .val (.int (p1 &&& (255 : Int32))), .val (.int ((XT.ushr p1 (8 : Int32)) &&& (255 : Int32))), .val (.int ((XT.ushr p1 (16 : Int32)) &&& (255 : Int32))), .val (.int ((XT.ushr p1 (24 : Int32)) &&& (255 : Int32))), .val (.int r1), .val (.int r2), .val (.int r3), .val (.int r4), .unset, .unset, .unset] [(.int (1 : Int32)), (.int (XT.ushr p4 (4 : Int32))), (.ref a5), (.ref a5)])) (fun t kt => XS.iconst X5.here hx rfl (hb hby at_110) kt) ?_
  refine Go.st (S' := T5.setTop (mkF m 112 #[.val (.int p0), .val (.int p1), .val (.int p2), .val (.int p3), .val (.int p4), .val (.int (p0 &&& (3 : Int32))), .val (.int ((XT.ushr p0 (2 : Int32)) &&& (3 : Int32))), .val (.int ((XT.ushr p0 (4 : Int32)) &&& (3 : Int32))), .val (.int ((XT.ushr p0 (6 : Int32)) &&& (3 : Int32))), .val (.int (p1 &&& (255 : Int32))), .val (.int ((XT.ushr p1 (8 : Int32)) &&& (255 : Int32))), .val (.int ((XT.ushr p1 (16 : Int32)) &&& (255 : Int32))), .val (.int ((XT.ushr p1 (24 : Int32)) &&& (255 : Int32))), .val (.int r1), .val (.int r2), .val (.int r3), .val (.int r4), .unset, .unset, .unset] [(.int ((XT.ushr p4 (4 : Int32)) &&& (1 : Int32))), (.ref a5), (.ref a5)])) (fun t kt => XS.iand X5.here hx rfl (hb hby at_111) rfl kt) ?_
  by_cases hc112_6 : ((XT.ushr p4 (4 : Int32)) &&& (1 : Int32)) = 0
  · refine Go.st (S' := T5.setTop (mkF m 119 #[.val (.int p0), .val (.int p1), .val (.int p2), .val (.int p3), .val (.int p4), .val (.int (p0 &&& (3 : Int32))), .val (.int ((XT.ushr p0 (2 : Int32)) &&& (3 : Int32))), .val (.int ((XT.ushr p0 (4 : Int32)) &&& (3 : Int32))), .val (.int ((XT.ushr p0 (6 : Int32)) &&& (3 : Int32))), .val (.int (p1 &&& (255 : Int32))), .val (.int ((XT.ushr p1 (8 : Int32)) &&& (255 : Int32))), .val (.int ((XT.ushr p1 (16 : Int32)) &&& (255 : Int32))), .val (.int ((XT.ushr p1 (24 : Int32)) &&& (255 : Int32))), .val (.int r1), .val (.int r2), .val (.int r3), .val (.int r4), .unset, .unset, .unset] [(.ref a5), (.ref a5)])) (fun t kt => XS.ifYes X5.here hx rfl (pc0 := 112) (pc' := 119) rfl (hb hby at_112) rfl (XT.i0_eq_t hc112_6) (by decide) (by decide) kt) ?_
    refine Go.st (S' := T5.setTop (mkF m 120 #[.val (.int p0), .val (.int p1), .val (.int p2), .val (.int p3), .val (.int p4), .val (.int (p0 &&& (3 : Int32))), .val (.int ((XT.ushr p0 (2 : Int32)) &&& (3 : Int32))), .val (.int ((XT.ushr p0 (4 : Int32)) &&& (3 : Int32))), .val (.int ((XT.ushr p0 (6 : Int32)) &&& (3 : Int32))), .val (.int (p1 &&& (255 : Int32))), .val (.int ((XT.ushr p1 (8 : Int32)) &&& (255 : Int32))), .val (.int ((XT.ushr p1 (16 : Int32)) &&& (255 : Int32))), .val (.int ((XT.ushr p1 (24 : Int32)) &&& (255 : Int32))), .val (.int r1), .val (.int r2), .val (.int r3), .val (.int r4), .unset, .unset, .unset] [(.int (0 : Int32)), (.ref a5), (.ref a5)])) (fun t kt => XS.iconst X5.here hx rfl (hb hby at_119) kt) ?_
    refine Go.st (S' := T5.setTop (mkF m 122 #[.val (.int p0), .val (.int p1), .val (.int p2), .val (.int p3), .val (.int p4), .val (.int (p0 &&& (3 : Int32))), .val (.int ((XT.ushr p0 (2 : Int32)) &&& (3 : Int32))), .val (.int ((XT.ushr p0 (4 : Int32)) &&& (3 : Int32))), .val (.int ((XT.ushr p0 (6 : Int32)) &&& (3 : Int32))), .val (.int (p1 &&& (255 : Int32))), .val (.int ((XT.ushr p1 (8 : Int32)) &&& (255 : Int32))), .val (.int ((XT.ushr p1 (16 : Int32)) &&& (255 : Int32))), .val (.int ((XT.ushr p1 (24 : Int32)) &&& (255 : Int32))), .val (.int r1), .val (.int r2), .val (.int r3), .val (.int r4), .unset, .unset, .unset] [(.int p4), (.int (0 : Int32)), (.ref a5), (.ref a5)])) (fun t kt => XS.iload X5.here hx rfl (hb hby at_120) rfl kt) ?_
    have f7 := (S_ELEMENT.ext E5)
    have f8 := (S_ATTRIBUTE.ext E5)
    have f9 := (S_TEXT.ext E5)
    have f10 := (S_SELF.ext E5)
    refine Go.stat X5 hx hZ hown (hw _ (List.mem_of_getElem? (i := 7) rfl)) (hw _ (List.mem_of_getElem? (i := 8) rfl)) (hw _ (List.mem_of_getElem? (i := 2) rfl)) (hw _ (List.mem_of_getElem? (i := 9) rfl)) (by decide) (argsL := [(.int p4)]) (rest := [(.int (0 : Int32)), (.ref a5), (.ref a5)]) (rmKN l Z a0 hw p4 h5 n0 Z5 k_ELEMENT k_ATTRIBUTE k_TEXT k_SELF f7 f8 f9 f10) e5 rfl (by rw [hml]; rfl) pd__I_Lcom_example_sunder_sunder_query_Step_Kind_ rfl (hb hby at_122) 3 (Nat.le_refl _) (by decide) (by decide) (by decide) (by decide) ?_
    intro v11 T11 L11 X11 hQ11
    obtain ⟨u11, hv11, N11', e11, hu11⟩ := hQ11
    subst hv11
    have N11 := Fr.app N4 N11'
    show Go pP eE below _ (T11.setTop (mkF m 125 #[.val (.int p0), .val (.int p1), .val (.int p2), .val (.int p3), .val (.int p4), .val (.int (p0 &&& (3 : Int32))), .val (.int ((XT.ushr p0 (2 : Int32)) &&& (3 : Int32))), .val (.int ((XT.ushr p0 (4 : Int32)) &&& (3 : Int32))), .val (.int ((XT.ushr p0 (6 : Int32)) &&& (3 : Int32))), .val (.int (p1 &&& (255 : Int32))), .val (.int ((XT.ushr p1 (8 : Int32)) &&& (255 : Int32))), .val (.int ((XT.ushr p1 (16 : Int32)) &&& (255 : Int32))), .val (.int ((XT.ushr p1 (24 : Int32)) &&& (255 : Int32))), .val (.int r1), .val (.int r2), .val (.int r3), .val (.int r4), .unset, .unset, .unset] [u11, (.int (0 : Int32)), (.ref a5), (.ref a5)]))
    refine Go.st (S' := T11.setTop (mkF m 127 #[.val (.int p0), .val (.int p1), .val (.int p2), .val (.int p3), .val (.int p4), .val (.int (p0 &&& (3 : Int32))), .val (.int ((XT.ushr p0 (2 : Int32)) &&& (3 : Int32))), .val (.int ((XT.ushr p0 (4 : Int32)) &&& (3 : Int32))), .val (.int ((XT.ushr p0 (6 : Int32)) &&& (3 : Int32))), .val (.int (p1 &&& (255 : Int32))), .val (.int ((XT.ushr p1 (8 : Int32)) &&& (255 : Int32))), .val (.int ((XT.ushr p1 (16 : Int32)) &&& (255 : Int32))), .val (.int ((XT.ushr p1 (24 : Int32)) &&& (255 : Int32))), .val (.int r1), .val (.int r2), .val (.int r3), .val (.int r4), .unset, .unset, .unset] [(.int (p0 &&& (3 : Int32))), u11, (.int (0 : Int32)), (.ref a5), (.ref a5)])) (fun t kt => XS.iload X11.here hx rfl (hb hby at_125) rfl kt) ?_
    refine Go.st (S' := T11.setTop (mkF m 129 #[.val (.int p0), .val (.int p1), .val (.int p2), .val (.int p3), .val (.int p4), .val (.int (p0 &&& (3 : Int32))), .val (.int ((XT.ushr p0 (2 : Int32)) &&& (3 : Int32))), .val (.int ((XT.ushr p0 (4 : Int32)) &&& (3 : Int32))), .val (.int ((XT.ushr p0 (6 : Int32)) &&& (3 : Int32))), .val (.int (p1 &&& (255 : Int32))), .val (.int ((XT.ushr p1 (8 : Int32)) &&& (255 : Int32))), .val (.int ((XT.ushr p1 (16 : Int32)) &&& (255 : Int32))), .val (.int ((XT.ushr p1 (24 : Int32)) &&& (255 : Int32))), .val (.int r1), .val (.int r2), .val (.int r3), .val (.int r4), .unset, .unset, .unset] [(.int (p1 &&& (255 : Int32))), (.int (p0 &&& (3 : Int32))), u11, (.int (0 : Int32)), (.ref a5), (.ref a5)])) (fun t kt => XS.iload X11.here hx rfl (hb hby at_127) rfl kt) ?_
    refine Go.st (S' := T11.setTop (mkF m 131 #[.val (.int p0), .val (.int p1), .val (.int p2), .val (.int p3), .val (.int p4), .val (.int (p0 &&& (3 : Int32))), .val (.int ((XT.ushr p0 (2 : Int32)) &&& (3 : Int32))), .val (.int ((XT.ushr p0 (4 : Int32)) &&& (3 : Int32))), .val (.int ((XT.ushr p0 (6 : Int32)) &&& (3 : Int32))), .val (.int (p1 &&& (255 : Int32))), .val (.int ((XT.ushr p1 (8 : Int32)) &&& (255 : Int32))), .val (.int ((XT.ushr p1 (16 : Int32)) &&& (255 : Int32))), .val (.int ((XT.ushr p1 (24 : Int32)) &&& (255 : Int32))), .val (.int r1), .val (.int r2), .val (.int r3), .val (.int r4), .unset, .unset, .unset] [(.int ((XT.ushr p1 (8 : Int32)) &&& (255 : Int32))), (.int (p1 &&& (255 : Int32))), (.int (p0 &&& (3 : Int32))), u11, (.int (0 : Int32)), (.ref a5), (.ref a5)])) (fun t kt => XS.iload X11.here hx rfl (hb hby at_129) rfl kt) ?_
    have f12 := (S_cs.ext E5)
    refine Go.statW X11 hx hZ hEL C5.1 hS hk hown (hw _ (List.mem_of_getElem? (i := 13) rfl)) (hw _ (List.mem_of_getElem? (i := 14) rfl)) (hw _ (List.mem_of_getElem? (i := 2) rfl)) (hw _ (List.mem_of_getElem? (i := 15) rfl)) (by decide) (argsL := [(.int (p0 &&& (3 : Int32))), (.int (p1 &&& (255 : Int32))), (.int ((XT.ushr p1 (8 : Int32)) &&& (255 : Int32)))]) (rest := [u11, (.int (0 : Int32)), (.ref a5), (.ref a5)]) (rmMK l Z a0 hw (p0 &&& (3 : Int32)) (p1 &&& (255 : Int32)) ((XT.ushr p1 (8 : Int32)) &&& (255 : Int32)) h5 n0 Z5 cs f12 hcs ⟨_, rfl⟩ ⟨_, rfl⟩) e11 rfl (by rw [hml]; rfl) pd__III_Ljava_lang_String_ rfl (hb hby at_131) 4 (by simp [own_cat_r, own_cat_i, own_cat_n, own_cat_j, own_cat_d, XT.cat1 hu11]) (by decide) (by decide) (by decide) (by decide) ?_
    intro v13 T13 L13 X13 hQ13 A13 hS
    have hk : T13.heap.size ≤ T13.heap.size := Nat.le_refl _
    have hZ := own_hZ hZ0 hS
    have hown := own_hown hown0 hS
    obtain ⟨u13, hv13, N13', K13', f13_0, f13_1⟩ := hQ13
    subst hv13
    have N13 := Fr.app N11 N13'
    have Z13 : n0 ≤ T13.heap.size := Nat.le_trans Z5 K13'.1
    have eh13 : T13.heap = T13.heap := rfl
    have C13 := CHr.trans C5 A13
    have hu_u13 := StrIs.isRef f13_1
    show Go pP eE below _ (T13.setTop (mkF m 134 #[.val (.int p0), .val (.int p1), .val (.int p2), .val (.int p3), .val (.int p4), .val (.int (p0 &&& (3 : Int32))), .val (.int ((XT.ushr p0 (2 : Int32)) &&& (3 : Int32))), .val (.int ((XT.ushr p0 (4 : Int32)) &&& (3 : Int32))), .val (.int ((XT.ushr p0 (6 : Int32)) &&& (3 : Int32))), .val (.int (p1 &&& (255 : Int32))), .val (.int ((XT.ushr p1 (8 : Int32)) &&& (255 : Int32))), .val (.int ((XT.ushr p1 (16 : Int32)) &&& (255 : Int32))), .val (.int ((XT.ushr p1 (24 : Int32)) &&& (255 : Int32))), .val (.int r1), .val (.int r2), .val (.int r3), .val (.int r4), .unset, .unset, .unset] [u13, u11, (.int (0 : Int32)), (.ref a5), (.ref a5)]))
    refine Go.st (S' := T13.setTop (mkF m 136 #[.val (.int p0), .val (.int p1), .val (.int p2), .val (.int p3), .val (.int p4), .val (.int (p0 &&& (3 : Int32))), .val (.int ((XT.ushr p0 (2 : Int32)) &&& (3 : Int32))), .val (.int ((XT.ushr p0 (4 : Int32)) &&& (3 : Int32))), .val (.int ((XT.ushr p0 (6 : Int32)) &&& (3 : Int32))), .val (.int (p1 &&& (255 : Int32))), .val (.int ((XT.ushr p1 (8 : Int32)) &&& (255 : Int32))), .val (.int ((XT.ushr p1 (16 : Int32)) &&& (255 : Int32))), .val (.int ((XT.ushr p1 (24 : Int32)) &&& (255 : Int32))), .val (.int r1), .val (.int r2), .val (.int r3), .val (.int r4), .unset, .unset, .unset] [(.int ((XT.ushr p0 (2 : Int32)) &&& (3 : Int32))), u13, u11, (.int (0 : Int32)), (.ref a5), (.ref a5)])) (fun t kt => XS.iload X13.here hx rfl (hb hby at_134) rfl kt) ?_
    refine Go.st (S' := T13.setTop (mkF m 138 #[.val (.int p0), .val (.int p1), .val (.int p2), .val (.int p3), .val (.int p4), .val (.int (p0 &&& (3 : Int32))), .val (.int ((XT.ushr p0 (2 : Int32)) &&& (3 : Int32))), .val (.int ((XT.ushr p0 (4 : Int32)) &&& (3 : Int32))), .val (.int ((XT.ushr p0 (6 : Int32)) &&& (3 : Int32))), .val (.int (p1 &&& (255 : Int32))), .val (.int ((XT.ushr p1 (8 : Int32)) &&& (255 : Int32))), .val (.int ((XT.ushr p1 (16 : Int32)) &&& (255 : Int32))), .val (.int ((XT.ushr p1 (24 : Int32)) &&& (255 : Int32))), .val (.int r1), .val (.int r2), .val (.int r3), .val (.int r4), .unset, .unset, .unset] [(.int ((XT.ushr p1 (16 : Int32)) &&& (255 : Int32))), (.int ((XT.ushr p0 (2 : Int32)) &&& (3 : Int32))), u13, u11, (.int (0 : Int32)), (.ref a5), (.ref a5)])) (fun t kt => XS.iload X13.here hx rfl (hb hby at_136) rfl kt) ?_
    refine Go.st (S' := T13.setTop (mkF m 140 #[.val (.int p0), .val (.int p1), .val (.int p2), .val (.int p3), .val (.int p4), .val (.int (p0 &&& (3 : Int32))), .val (.int ((XT.ushr p0 (2 : Int32)) &&& (3 : Int32))), .val (.int ((XT.ushr p0 (4 : Int32)) &&& (3 : Int32))), .val (.int ((XT.ushr p0 (6 : Int32)) &&& (3 : Int32))), .val (.int (p1 &&& (255 : Int32))), .val (.int ((XT.ushr p1 (8 : Int32)) &&& (255 : Int32))), .val (.int ((XT.ushr p1 (16 : Int32)) &&& (255 : Int32))), .val (.int ((XT.ushr p1 (24 : Int32)) &&& (255 : Int32))), .val (.int r1), .val (.int r2), .val (.int r3), .val (.int r4), .unset, .unset, .unset] [(.int ((XT.ushr p1 (24 : Int32)) &&& (255 : Int32))), (.int ((XT.ushr p1 (16 : Int32)) &&& (255 : Int32))), (.int ((XT.ushr p0 (2 : Int32)) &&& (3 : Int32))), u13, u11, (.int (0 : Int32)), (.ref a5), (.ref a5)])) (fun t kt => XS.iload X13.here hx rfl (hb hby at_138) rfl kt) ?_
    have f14 := (own_sta_keep f12 K13' all0)
    have f16 := (A5.keep K13')
    refine Go.statW X13 hx hZ hEL C13.1 hS hk hown (hw _ (List.mem_of_getElem? (i := 13) rfl)) (hw _ (List.mem_of_getElem? (i := 14) rfl)) (hw _ (List.mem_of_getElem? (i := 2) rfl)) (hw _ (List.mem_of_getElem? (i := 15) rfl)) (by decide) (argsL := [(.int ((XT.ushr p0 (2 : Int32)) &&& (3 : Int32))), (.int ((XT.ushr p1 (16 : Int32)) &&& (255 : Int32))), (.int ((XT.ushr p1 (24 : Int32)) &&& (255 : Int32)))]) (rest := [u13, u11, (.int (0 : Int32)), (.ref a5), (.ref a5)]) (rmMK l Z a0 hw ((XT.ushr p0 (2 : Int32)) &&& (3 : Int32)) ((XT.ushr p1 (16 : Int32)) &&& (255 : Int32)) ((XT.ushr p1 (24 : Int32)) &&& (255 : Int32)) T13.heap n0 Z13 cs f14 hcs ⟨_, rfl⟩ ⟨_, rfl⟩) eh13 rfl (by rw [hml]; rfl) pd__III_Ljava_lang_String_ rfl (hb hby at_140) 5 (by simp [own_cat_r, own_cat_i, own_cat_n, own_cat_j, own_cat_d, XT.cat1 hu_u13, XT.cat1 hu11]) (by decide) (by decide) (by decide) (by decide) ?_
    intro v15 T15 L15 X15 hQ15 A15 hS
    have hk : T15.heap.size ≤ T15.heap.size := Nat.le_refl _
    have hZ := own_hZ hZ0 hS
    have hown := own_hown hown0 hS
    obtain ⟨u15, hv15, N15', K15', f15_0, f15_1⟩ := hQ15
    subst hv15
    have N15 := Fr.app N13 N15'
    have Z15 : n0 ≤ T15.heap.size := Nat.le_trans Z13 K15'.1
    have eh15 : T15.heap = T15.heap := rfl
    have C15 := CHr.trans C13 A15
    have hu_u15 := StrIs.isRef f15_1
    show Go pP eE below _ (T15.setTop (mkF m 143 #[.val (.int p0), .val (.int p1), .val (.int p2), .val (.int p3), .val (.int p4), .val (.int (p0 &&& (3 : Int32))), .val (.int ((XT.ushr p0 (2 : Int32)) &&& (3 : Int32))), .val (.int ((XT.ushr p0 (4 : Int32)) &&& (3 : Int32))), .val (.int ((XT.ushr p0 (6 : Int32)) &&& (3 : Int32))), .val (.int (p1 &&& (255 : Int32))), .val (.int ((XT.ushr p1 (8 : Int32)) &&& (255 : Int32))), .val (.int ((XT.ushr p1 (16 : Int32)) &&& (255 : Int32))), .val (.int ((XT.ushr p1 (24 : Int32)) &&& (255 : Int32))), .val (.int r1), .val (.int r2), .val (.int r3), .val (.int r4), .unset, .unset, .unset] [u15, u13, u11, (.int (0 : Int32)), (.ref a5), (.ref a5)]))
    refine Go.st (S' := T15.setTop (mkF m 144 #[.val (.int p0), .val (.int p1), .val (.int p2), .val (.int p3), .val (.int p4), .val (.int (p0 &&& (3 : Int32))), .val (.int ((XT.ushr p0 (2 : Int32)) &&& (3 : Int32))), .val (.int ((XT.ushr p0 (4 : Int32)) &&& (3 : Int32))), .val (.int ((XT.ushr p0 (6 : Int32)) &&& (3 : Int32))), .val (.int (p1 &&& (255 : Int32))), .val (.int ((XT.ushr p1 (8 : Int32)) &&& (255 : Int32))), .val (.int ((XT.ushr p1 (16 : Int32)) &&& (255 : Int32))), .val (.int ((XT.ushr p1 (24 : Int32)) &&& (255 : Int32))), .val (.int r1), .val (.int r2), .val (.int r3), .val (.int r4), .unset, .unset, .unset] [.null, u15, u13, u11, (.int (0 : Int32)), (.ref a5), (.ref a5)])) (fun t kt => XS.aconstNull X15.here hx rfl (hb hby at_143) kt) ?_
    have f17 := (f16.keep K15')
    have f18 := ((F5_descendants.keep K13' nin0).keep K15' nin0)
    have f19 := ((F5_kind.keep K13' nin0).keep K15' nin0)
    have f20 := ((F5_namespaceUri.keep K13' nin0).keep K15' nin0)
    have f21 := ((F5_localName.keep K13' nin0).keep K15' nin0)
    have f22 := ((F5_predicates.keep K13' nin0).keep K15' nin0)
    refine Go.init X15 hx hZ rfl hown (hw _ (List.mem_of_getElem? (i := 16) rfl)) (hw _ (List.mem_of_getElem? (i := 17) rfl)) (hw _ (List.mem_of_getElem? (i := 18) rfl)) (hw _ (List.mem_of_getElem? (i := 6) rfl)) (by decide) (b := a5) (argsL := [(.int (0 : Int32)), u11, u13, u15, .null]) (rest := [(.ref a5)]) (rmSI0 l Z a0 hw a5 u11 u13 u15 hu11 hu_u13 hu_u15 T15.heap n0 Z15 f17 (Nat.le_trans Z0 (Nat.le_of_eq g5.symm)) f18 f19 f20 f21 f22) eh15 rfl (by rw [hml]; rfl) pd__ZLcom_example_sunder_sunder_query_Step_Kind_Ljava_lang_String_Ljava_lang_String_Ljava_util_List__V rfl (hb hby at_144) 1 (Nat.le_refl _) (by decide) (by decide) (by decide) (by decide) ?_
    intro v23 T23 L23 X23 hQ23
    have f24 := (CHr.safe A15 f16.lt (CHr.safe A13 A5.lt (Safe.ext E5 C0.1 S5)))
    obtain ⟨hv23, N23', K23', f23_0, f23_1, f23_2⟩ := hQ23
    subst hv23
    have N23 := Fr.app N15 N23'
    have Z23 : n0 ≤ T23.heap.size := Nat.le_trans Z15 K23'.1
    have eh23 : T23.heap = T23.heap := rfl
    have C23 := CHr.trans C15 (CHr.keep K23' (allS f24 all0) C15.1)
    have hk := Nat.le_trans hk K23'.1
    show Go pP eE below _ (T23.setTop (mkF m 147 #[.val (.int p0), .val (.int p1), .val (.int p2), .val (.int p3), .val (.int p4), .val (.int (p0 &&& (3 : Int32))), .val (.int ((XT.ushr p0 (2 : Int32)) &&& (3 : Int32))), .val (.int ((XT.ushr p0 (4 : Int32)) &&& (3 : Int32))), .val (.int ((XT.ushr p0 (6 : Int32)) &&& (3 : Int32))), .val (.int (p1 &&& (255 : Int32))), .val (.int ((XT.ushr p1 (8 : Int32)) &&& (255 : Int32))), .val (.int ((XT.ushr p1 (16 : Int32)) &&& (255 : Int32))), .val (.int ((XT.ushr p1 (24 : Int32)) &&& (255 : Int32))), .val (.int r1), .val (.int r2), .val (.int r3), .val (.int r4), .unset, .unset, .unset] [(.ref a5)]))
    refine Go.st (S' := T23.setTop (mkF m 149 #[.val (.int p0), .val (.int p1), .val (.int p2), .val (.int p3), .val (.int p4), .val (.int (p0 &&& (3 : Int32))), .val (.int ((XT.ushr p0 (2 : Int32)) &&& (3 : Int32))), .val (.int ((XT.ushr p0 (4 : Int32)) &&& (3 : Int32))), .val (.int ((XT.ushr p0 (6 : Int32)) &&& (3 : Int32))), .val (.int (p1 &&& (255 : Int32))), .val (.int ((XT.ushr p1 (8 : Int32)) &&& (255 : Int32))), .val (.int ((XT.ushr p1 (16 : Int32)) &&& (255 : Int32))), .val (.int ((XT.ushr p1 (24 : Int32)) &&& (255 : Int32))), .val (.int r1), .val (.int r2), .val (.int r3), .val (.int r4), .val (.ref a5), .unset, .unset] [])) (fun t kt => XS.astore X23.here hx rfl (hb hby at_147) rfl rfl rfl kt) ?_
    obtain ⟨T25, h25, X25, e25, E25, A25, D25, -, st25⟩ := newO X23 hx hZ hown (hw _ (List.mem_of_getElem? (i := 4) rfl)) (hw _ (List.mem_of_getElem? (i := 5) rfl)) (hw _ (List.mem_of_getElem? (i := 6) rfl)) eh23 (g := (mkF m 149 #[.val (.int p0), .val (.int p1), .val (.int p2), .val (.int p3), .val (.int p4), .val (.int (p0 &&& (3 : Int32))), .val (.int ((XT.ushr p0 (2 : Int32)) &&& (3 : Int32))), .val (.int ((XT.ushr p0 (4 : Int32)) &&& (3 : Int32))), .val (.int ((XT.ushr p0 (6 : Int32)) &&& (3 : Int32))), .val (.int (p1 &&& (255 : Int32))), .val (.int ((XT.ushr p1 (8 : Int32)) &&& (255 : Int32))), .val (.int ((XT.ushr p1 (16 : Int32)) &&& (255 : Int32))), .val (.int ((XT.ushr p1 (24 : Int32)) &&& (255 : Int32))), .val (.int r1), .val (.int r2), .val (.int r3), .val (.int r4), .val (.ref a5), .unset, .unset] [])) rfl (hb hby at_149) (by decide) (by decide)
    obtain ⟨a25, g25⟩ : ∃ z, z = T23.heap.size := ⟨_, rfl⟩
    rw [← g25] at A25 D25 st25
    have Z25 : n0 ≤ h25.size := Nat.le_trans Z23 E25.1
    have S25 : Safe Z own_EL T15.vm T23.heap a25 := Safe.new (Nat.le_of_eq g25.symm)
    have C25 := CHr.trans C23 (CHr.ext E25 C23.1)
    have hk := Nat.le_trans hk E25.1
    have F25_descendants : Fld Z h25 a25 "com/example/sunder/sunder/query/Step" "descendants" "Z" (.int (0 : Int32)) := D25 (Or.inr (hw _ (List.mem_of_getElem? (i := 28) rfl))) (ty := .boolean) (by decide)
    have F25_kind : Fld Z h25 a25 "com/example/sunder/sunder/query/Step" "kind" "Lcom/example/sunder/sunder/query/Step$Kind;" .null := D25 (Or.inr (hw _ (List.mem_of_getElem? (i := 30) rfl))) (ty := (.object "com/example/sunder/sunder/query/Step$Kind")) (by decide)
    have F25_namespaceUri : Fld Z h25 a25 "com/example/sunder/sunder/query/Step" "namespaceUri" "Ljava/lang/String;" .null := D25 (Or.inr (hw _ (List.mem_of_getElem? (i := 32) rfl))) (ty := (.object "java/lang/String")) (by decide)
    have F25_localName : Fld Z h25 a25 "com/example/sunder/sunder/query/Step" "localName" "Ljava/lang/String;" .null := D25 (Or.inr (hw _ (List.mem_of_getElem? (i := 34) rfl))) (ty := (.object "java/lang/String")) (by decide)
    have F25_predicates : Fld Z h25 a25 "com/example/sunder/sunder/query/Step" "predicates" "Ljava/util/List;" .null := D25 (Or.inr (hw _ (List.mem_of_getElem? (i := 36) rfl))) (ty := (.object "java/util/List")) (by decide)
    refine Go.st (S' := T25.setTop (mkF m 152 #[.val (.int p0), .val (.int p1), .val (.int p2), .val (.int p3), .val (.int p4), .val (.int (p0 &&& (3 : Int32))), .val (.int ((XT.ushr p0 (2 : Int32)) &&& (3 : Int32))), .val (.int ((XT.ushr p0 (4 : Int32)) &&& (3 : Int32))), .val (.int ((XT.ushr p0 (6 : Int32)) &&& (3 : Int32))), .val (.int (p1 &&& (255 : Int32))), .val (.int ((XT.ushr p1 (8 : Int32)) &&& (255 : Int32))), .val (.int ((XT.ushr p1 (16 : Int32)) &&& (255 : Int32))), .val (.int ((XT.ushr p1 (24 : Int32)) &&& (255 : Int32))), .val (.int r1), .val (.int r2), .val (.int r3), .val (.int r4), .val (.ref a5), .unset, .unset] [(.ref a25)])) (fun t kt => st25 t kt) ?_
    refine Go.st (S' := T25.setTop (mkF m 153 #[.val (.int p0), .val (.int p1), .val (.int p2), .val (.int p3), .val (.int p4), .val (.int (p0 &&& (3 : Int32))), .val (.int ((XT.ushr p0 (2 : Int32)) &&& (3 : Int32))), .val (.int ((XT.ushr p0 (4 : Int32)) &&& (3 : Int32))), .val (.int ((XT.ushr p0 (6 : Int32)) &&& (3 : Int32))), .val (.int (p1 &&& (255 : Int32))), .val (.int ((XT.ushr p1 (8 : Int32)) &&& (255 : Int32))), .val (.int ((XT.ushr p1 (16 : Int32)) &&& (255 : Int32))), .val (.int ((XT.ushr p1 (24 : Int32)) &&& (255 : Int32))), .val (.int r1), .val (.int r2), .val (.int r3), .val (.int r4), .val (.ref a5), .unset, .unset] [(.ref a25), (.ref a25)])) (fun t kt => XS.dup X25.here hx rfl (hb hby at_152) rfl rfl kt) ?_
    refine Go.st (S' := T25.setTop (mkF m 155 #[.val (.int p0), .val (.int p1), .val (.int p2), .val (.int p3), .val (.int p4), .val (.int (p0 &&& (3 : Int32))), .val (.int ((XT.ushr p0 (2 : Int32)) &&& (3 : Int32))), .val (.int ((XT.ushr p0 (4 : Int32)) &&& (3 : Int32))), .val (.int ((XT.ushr p0 (6 : Int32)) &&& (3 : Int32))), .val (.int (p1 &&& (255 : Int32))), .val (.int ((XT.ushr p1 (8 : Int32)) &&& (255 : Int32))), .val (.int ((XT.ushr p1 (16 : Int32)) &&& (255 : Int32))), .val (.int ((XT.ushr p1 (24 : Int32)) &&& (255 : Int32))), .val (.int r1), .val (.int r2), .val (.int r3), .val (.int r4), .val (.ref a5), .unset, .unset] [(.int p4), (.ref a25), (.ref a25)])) (fun t kt => XS.iload X25.here hx rfl (hb hby at_153) rfl kt) ?_
    refine Go.st (S' := T25.setTop (mkF m 156 #[.val (.int p0), .val (.int p1), .val (.int p2), .val (.int p3), .val (.int p4), .val (.int (p0 &&& (3 : Int32))), .val (.int ((XT.ushr p0 (2 : Int32)) &&& (3 : Int32))), .val (.int ((XT.ushr p0 (4 : Int32)) &&& (3 : Int32))), .val (.int ((XT.ushr p0 (6 : Int32)) &&& (3 : Int32))), .val (.int (p1 &&& (255 : Int32))), .val (.int ((XT.ushr p1 (8 : Int32)) &&& (255 : Int32))), .val (.int ((XT.ushr p1 (16 : Int32)) &&& (255 : Int32))), .val (.int ((XT.ushr p1 (24 : Int32)) &&& (255 : Int32))), .val (.int r1), .val (.int r2), .val (.int r3), .val (.int r4), .val (.ref a5), .unset, .unset] [(.int (5 : Int32)), (.int p4), (.ref a25), (.ref a25)])) (fun t kt => XS.iconst X25.here hx rfl (hb hby at_155) kt) ?_
    refine Go.st (S' := T25.setTop (mkF m 157 #[.val (.int p0), .val (.int p1), .val (.int p2), .val (.int p3), .val (.int p4), .val (.int (p0 &&& (3 : Int32))), .val (.int ((XT.ushr p0 (2 : Int32)) &&& (3 : Int32))), .val (.int ((XT.ushr p0 (4 : Int32)) &&& (3 : Int32))), .val (.int ((XT.ushr p0 (6 : Int32)) &&& (3 : Int32))), .val (.int (p1 &&& (255 : Int32))), .val (.int ((XT.ushr p1 (8 : Int32)) &&& (255 : Int32))), .val (.int ((XT.ushr p1 (16 : Int32)) &&& (255 : Int32))), .val (.int ((XT.ushr p1 (24 : Int32)) &&& (255 : Int32))), .val (.int r1), .val (.int r2), .val (.int r3), .val (.int r4), .val (.ref a5), .unset, .unset] [(.int (XT.ushr p4 (5 : Int32))), (.ref a25), (.ref a25)])) (fun t kt => XT.iushr X25.here hx rfl (hb hby at_156) rfl kt) ?_
    refine Go.st (S' := T25.setTop (mkF m 158 #[.val (.int p0), .val (.int p1), .val (.int p2), .val (.int p3), .val (.int p4), .val (.int (p0 &&& (3 : Int32))), .val (.int ((XT.ushr p0 (2 : Int32)) &&& (3 : Int32))), .val (.int ((XT.ushr p0 (4 : Int32)) &&& (3 : Int32))), .val (.int ((XT.ushr p0 (6 : Int32)) &&& (3 : Int32))), .val (.int (p1 &&& (255 : Int32))), .val (.int ((XT.ushr p1 (8 : Int32)) &&& (255 : Int32))), .val (.int ((XT.ushr p1 (16 : Int32)) &&& (255 : Int32))), .val (.int ((XT.ushr p1 (24 : Int32)) &&& (255 : Int32))), .val (.int r1), .val (.int r2), .val (.int r3), .val (.int r4), .val (.ref a5), .unset, .unset] [(.int (1 : Int32)), (.int (XT.ushr p4 (5 : Int32))), (.ref a25), (.ref a25)])) (fun t kt => XS.iconst X25.here hx rfl (hb hby at_157) kt) ?_
    refine Go.st (S' := T25.setTop (mkF m 159 #[.val (.int p0), .val (.int p1), .val (.int p2), .val (.int p3), .val (.int p4), .val (.int (p0 &&& (3 : Int32))), .val (.int ((XT.ushr p0 (2 : Int32)) &&& (3 : Int32))), .val (.int ((XT.ushr p0 (4 : Int32)) &&& (3 : Int32))), .val (.int ((XT.ushr p0 (6 : Int32)) &&& (3 : Int32))), .val (.int (p1 &&& (255 : Int32))), .val (.int ((XT.ushr p1 (8 : Int32)) &&& (255 : Int32))), .val (.int ((XT.ushr p1 (16 : Int32)) &&& (255 : Int32))), .val (.int ((XT.ushr p1 (24 : Int32)) &&& (255 : Int32))), .val (.int r1), .val (.int r2), .val (.int r3), .val (.int r4), .val (.ref a5), .unset, .unset] [(.int ((XT.ushr p4 (5 : Int32)) &&& (1 : Int32))), (.ref a25), (.ref a25)])) (fun t kt => XS.iand X25.here hx rfl (hb hby at_158) rfl kt) ?_
    by_cases hc159_26 : ((XT.ushr p4 (5 : Int32)) &&& (1 : Int32)) = 0
    · refine Go.st (S' := T25.setTop (mkF m 166 #[.val (.int p0), .val (.int p1), .val (.int p2), .val (.int p3), .val (.int p4), .val (.int (p0 &&& (3 : Int32))), .val (.int ((XT.ushr p0 (2 : Int32)) &&& (3 : Int32))), .val (.int ((XT.ushr p0 (4 : Int32)) &&& (3 : Int32))), .val (.int ((XT.ushr p0 (6 : Int32)) &&& (3 : Int32))), .val (.int (p1 &&& (255 : Int32))), .val (.int ((XT.ushr p1 (8 : Int32)) &&& (255 : Int32))), .val (.int ((XT.ushr p1 (16 : Int32)) &&& (255 : Int32))), .val (.int ((XT.ushr p1 (24 : Int32)) &&& (255 : Int32))), .val (.int r1), .val (.int r2), .val (.int r3), .val (.int r4), .val (.ref a5), .unset, .unset] [(.ref a25), (.ref a25)])) (fun t kt => XS.ifYes X25.here hx rfl (pc0 := 159) (pc' := 166) rfl (hb hby at_159) rfl (XT.i0_eq_t hc159_26) (by decide) (by decide) kt) ?_
      refine Go.st (S' := T25.setTop (mkF m 167 #[.val (.int p0), .val (.int p1), .val (.int p2), .val (.int p3), .val (.int p4), .val (.int (p0 &&& (3 : Int32))), .val (.int ((XT.ushr p0 (2 : Int32)) &&& (3 : Int32))), .val (.int ((XT.ushr p0 (4 : Int32)) &&& (3 : Int32))), .val (.int ((XT.ushr p0 (6 : Int32)) &&& (3 : Int32))), .val (.int (p1 &&& (255 : Int32))), .val (.int ((XT.ushr p1 (8 : Int32)) &&& (255 : Int32))), .val (.int ((XT.ushr p1 (16 : Int32)) &&& (255 : Int32))), .val (.int ((XT.ushr p1 (24 : Int32)) &&& (255 : Int32))), .val (.int r1), .val (.int r2), .val (.int r3), .val (.int r4), .val (.ref a5), .unset, .unset] [(.int (0 : Int32)), (.ref a25), (.ref a25)])) (fun t kt => XS.iconst X25.here hx rfl (hb hby at_166) kt) ?_
      refine Go.st (S' := T25.setTop (mkF m 169 #[.val (.int p0), .val (.int p1), .val (.int p2), .val (.int p3), .val (.int p4), .val (.int (p0 &&& (3 : Int32))), .val (.int ((XT.ushr p0 (2 : Int32)) &&& (3 : Int32))), .val (.int ((XT.ushr p0 (4 : Int32)) &&& (3 : Int32))), .val (.int ((XT.ushr p0 (6 : Int32)) &&& (3 : Int32))), .val (.int (p1 &&& (255 : Int32))), .val (.int ((XT.ushr p1 (8 : Int32)) &&& (255 : Int32))), .val (.int ((XT.ushr p1 (16 : Int32)) &&& (255 : Int32))), .val (.int ((XT.ushr p1 (24 : Int32)) &&& (255 : Int32))), .val (.int r1), .val (.int r2), .val (.int r3), .val (.int r4), .val (.ref a5), .unset, .unset] [(.int p4), (.int (0 : Int32)), (.ref a25), (.ref a25)])) (fun t kt => XS.iload X25.here hx rfl (hb hby at_167) rfl kt) ?_
      refine Go.st (S' := T25.setTop (mkF m 170 #[.val (.int p0), .val (.int p1), .val (.int p2), .val (.int p3), .val (.int p4), .val (.int (p0 &&& (3 : Int32))), .val (.int ((XT.ushr p0 (2 : Int32)) &&& (3 : Int32))), .val (.int ((XT.ushr p0 (4 : Int32)) &&& (3 : Int32))), .val (.int ((XT.ushr p0 (6 : Int32)) &&& (3 : Int32))), .val (.int (p1 &&& (255 : Int32))), .val (.int ((XT.ushr p1 (8 : Int32)) &&& (255 : Int32))), .val (.int ((XT.ushr p1 (16 : Int32)) &&& (255 : Int32))), .val (.int ((XT.ushr p1 (24 : Int32)) &&& (255 : Int32))), .val (.int r1), .val (.int r2), .val (.int r3), .val (.int r4), .val (.ref a5), .unset, .unset] [(.int (2 : Int32)), (.int p4), (.int (0 : Int32)), (.ref a25), (.ref a25)])) (fun t kt => XS.iconst X25.here hx rfl (hb hby at_169) kt) ?_
      refine Go.st (S' := T25.setTop (mkF m 171 #[.val (.int p0), .val (.int p1), .val (.int p2), .val (.int p3), .val (.int p4), .val (.int (p0 &&& (3 : Int32))), .val (.int ((XT.ushr p0 (2 : Int32)) &&& (3 : Int32))), .val (.int ((XT.ushr p0 (4 : Int32)) &&& (3 : Int32))), .val (.int ((XT.ushr p0 (6 : Int32)) &&& (3 : Int32))), .val (.int (p1 &&& (255 : Int32))), .val (.int ((XT.ushr p1 (8 : Int32)) &&& (255 : Int32))), .val (.int ((XT.ushr p1 (16 : Int32)) &&& (255 : Int32))), .val (.int ((XT.ushr p1 (24 : Int32)) &&& (255 : Int32))), .val (.int r1), .val (.int r2), .val (.int r3), .val (.int r4), .val (.ref a5), .unset, .unset] [(.int (XT.ushr p4 (2 : Int32))), (.int (0 : Int32)), (.ref a25), (.ref a25)])) (fun t kt => XT.iushr X25.here hx rfl (hb hby at_170) rfl kt) ?_
      have f27 := ((own_sta_keep (own_sta_keep (own_sta_keep f7 K13' all0) K15' all0) K23' (allS (own_obj_exa f17) all0)).ext E25)
      have f28 := ((own_sta_keep (own_sta_keep (own_sta_keep f8 K13' all0) K15' all0) K23' (allS (own_obj_exa f17) all0)).ext E25)
      have f29 := ((own_sta_keep (own_sta_keep (own_sta_keep f9 K13' all0) K15' all0) K23' (allS (own_obj_exa f17) all0)).ext E25)
      have f30 := ((own_sta_keep (own_sta_keep (own_sta_keep f10 K13' all0) K15' all0) K23' (allS (own_obj_exa f17) all0)).ext E25)
      refine Go.stat X25 hx hZ hown (hw _ (List.mem_of_getElem? (i := 7) rfl)) (hw _ (List.mem_of_getElem? (i := 8) rfl)) (hw _ (List.mem_of_getElem? (i := 2) rfl)) (hw _ (List.mem_of_getElem? (i := 9) rfl)) (by decide) (argsL := [(.int (XT.ushr p4 (2 : Int32)))]) (rest := [(.int (0 : Int32)), (.ref a25), (.ref a25)]) (rmKN l Z a0 hw (XT.ushr p4 (2 : Int32)) h25 n0 Z25 k_ELEMENT k_ATTRIBUTE k_TEXT k_SELF f27 f28 f29 f30) e25 rfl (by rw [hml]; rfl) pd__I_Lcom_example_sunder_sunder_query_Step_Kind_ rfl (hb hby at_171) 3 (Nat.le_refl _) (by decide) (by decide) (by decide) (by decide) ?_
      intro v31 T31 L31 X31 hQ31
      obtain ⟨u31, hv31, N31', e31, hu31⟩ := hQ31
      subst hv31
      have N31 := Fr.app N23 N31'
      show Go pP eE below _ (T31.setTop (mkF m 174 #[.val (.int p0), .val (.int p1), .val (.int p2), .val (.int p3), .val (.int p4), .val (.int (p0 &&& (3 : Int32))), .val (.int ((XT.ushr p0 (2 : Int32)) &&& (3 : Int32))), .val (.int ((XT.ushr p0 (4 : Int32)) &&& (3 : Int32))), .val (.int ((XT.ushr p0 (6 : Int32)) &&& (3 : Int32))), .val (.int (p1 &&& (255 : Int32))), .val (.int ((XT.ushr p1 (8 : Int32)) &&& (255 : Int32))), .val (.int ((XT.ushr p1 (16 : Int32)) &&& (255 : Int32))), .val (.int ((XT.ushr p1 (24 : Int32)) &&& (255 : Int32))), .val (.int r1), .val (.int r2), .val (.int r3), .val (.int r4), .val (.ref a5), .unset, .unset] [u31, (.int (0 : Int32)), (.ref a25), (.ref a25)]))
      refine Go.st (S' := T31.setTop (mkF m 176 #[.val (.int p0), .val (.int p1), .val (.int p2), .val (.int p3), .val (.int p4), .val (.int (p0 &&& (3 : Int32))), .val (.int ((XT.ushr p0 (2 : Int32)) &&& (3 : Int32))), .val (.int ((XT.ushr p0 (4 : Int32)) &&& (3 : Int32))), .val (.int ((XT.ushr p0 (6 : Int32)) &&& (3 : Int32))), .val (.int (p1 &&& (255 : Int32))), .val (.int ((XT.ushr p1 (8 : Int32)) &&& (255 : Int32))), .val (.int ((XT.ushr p1 (16 : Int32)) &&& (255 : Int32))), .val (.int ((XT.ushr p1 (24 : Int32)) &&& (255 : Int32))), .val (.int r1), .val (.int r2), .val (.int r3), .val (.int r4), .val (.ref a5), .unset, .unset] [(.int ((XT.ushr p0 (4 : Int32)) &&& (3 : Int32))), u31, (.int (0 : Int32)), (.ref a25), (.ref a25)])) (fun t kt => XS.iload X31.here hx rfl (hb hby at_174) rfl kt) ?_
      refine Go.st (S' := T31.setTop (mkF m 178 #[.val (.int p0), .val (.int p1), .val (.int p2), .val (.int p3), .val (.int p4), .val (.int (p0 &&& (3 : Int32))), .val (.int ((XT.ushr p0 (2 : Int32)) &&& (3 : Int32))), .val (.int ((XT.ushr p0 (4 : Int32)) &&& (3 : Int32))), .val (.int ((XT.ushr p0 (6 : Int32)) &&& (3 : Int32))), .val (.int (p1 &&& (255 : Int32))), .val (.int ((XT.ushr p1 (8 : Int32)) &&& (255 : Int32))), .val (.int ((XT.ushr p1 (16 : Int32)) &&& (255 : Int32))), .val (.int ((XT.ushr p1 (24 : Int32)) &&& (255 : Int32))), .val (.int r1), .val (.int r2), .val (.int r3), .val (.int r4), .val (.ref a5), .unset, .unset] [(.int r1), (.int ((XT.ushr p0 (4 : Int32)) &&& (3 : Int32))), u31, (.int (0 : Int32)), (.ref a25), (.ref a25)])) (fun t kt => XS.iload X31.here hx rfl (hb hby at_176) rfl kt) ?_
      refine Go.st (S' := T31.setTop (mkF m 180 #[.val (.int p0), .val (.int p1), .val (.int p2), .val (.int p3), .val (.int p4), .val (.int (p0 &&& (3 : Int32))), .val (.int ((XT.ushr p0 (2 : Int32)) &&& (3 : Int32))), .val (.int ((XT.ushr p0 (4 : Int32)) &&& (3 : Int32))), .val (.int ((XT.ushr p0 (6 : Int32)) &&& (3 : Int32))), .val (.int (p1 &&& (255 : Int32))), .val (.int ((XT.ushr p1 (8 : Int32)) &&& (255 : Int32))), .val (.int ((XT.ushr p1 (16 : Int32)) &&& (255 : Int32))), .val (.int ((XT.ushr p1 (24 : Int32)) &&& (255 : Int32))), .val (.int r1), .val (.int r2), .val (.int r3), .val (.int r4), .val (.ref a5), .unset, .unset] [(.int r2), (.int r1), (.int ((XT.ushr p0 (4 : Int32)) &&& (3 : Int32))), u31, (.int (0 : Int32)), (.ref a25), (.ref a25)])) (fun t kt => XS.iload X31.here hx rfl (hb hby at_178) rfl kt) ?_
      have f32 := ((own_sta_keep (own_sta_keep f14 K15' all0) K23' (allS (own_obj_exa f17) all0)).ext E25)
      have f34 := (f23_0.ext E25)
      refine Go.statW X31 hx hZ hEL C25.1 hS hk hown (hw _ (List.mem_of_getElem? (i := 13) rfl)) (hw _ (List.mem_of_getElem? (i := 14) rfl)) (hw _ (List.mem_of_getElem? (i := 2) rfl)) (hw _ (List.mem_of_getElem? (i := 15) rfl)) (by decide) (argsL := [(.int ((XT.ushr p0 (4 : Int32)) &&& (3 : Int32))), (.int r1), (.int r2)]) (rest := [u31, (.int (0 : Int32)), (.ref a25), (.ref a25)]) (rmMK l Z a0 hw ((XT.ushr p0 (4 : Int32)) &&& (3 : Int32)) r1 r2 h25 n0 Z25 cs f32 hcs lo1 lo2) e31 rfl (by rw [hml]; rfl) pd__III_Ljava_lang_String_ rfl (hb hby at_180) 4 (by simp [own_cat_r, own_cat_i, own_cat_n, own_cat_j, own_cat_d, XT.cat1 hu31]) (by decide) (by decide) (by decide) (by decide) ?_
      intro v33 T33 L33 X33 hQ33 A33 hS
      have hk : T33.heap.size ≤ T33.heap.size := Nat.le_refl _
      have hZ := own_hZ hZ0 hS
      have hown := own_hown hown0 hS
      have f35 := ((StrIs.keep (StrIs.keep f13_1 K15' all0) K23' (allS (own_nostr f17 (by decide) (hw _ (List.mem_of_getElem? (i := 5) rfl))) all0)).ext E25)
      have f36 := ((StrIs.keep f15_1 K23' (allS (own_nostr f17 (by decide) (hw _ (List.mem_of_getElem? (i := 5) rfl))) all0)).ext E25)
      obtain ⟨u33, hv33, N33', K33', f33_0, f33_1⟩ := hQ33
      subst hv33
      have N33 := Fr.app N31 N33'
      have Z33 : n0 ≤ T33.heap.size := Nat.le_trans Z25 K33'.1
      have eh33 : T33.heap = T33.heap := rfl
      have C33 := CHr.trans C25 A33
      have hu_u33 := StrIs.isRef f33_1
      show Go pP eE below _ (T33.setTop (mkF m 183 #[.val (.int p0), .val (.int p1), .val (.int p2), .val (.int p3), .val (.int p4), .val (.int (p0 &&& (3 : Int32))), .val (.int ((XT.ushr p0 (2 : Int32)) &&& (3 : Int32))), .val (.int ((XT.ushr p0 (4 : Int32)) &&& (3 : Int32))), .val (.int ((XT.ushr p0 (6 : Int32)) &&& (3 : Int32))), .val (.int (p1 &&& (255 : Int32))), .val (.int ((XT.ushr p1 (8 : Int32)) &&& (255 : Int32))), .val (.int ((XT.ushr p1 (16 : Int32)) &&& (255 : Int32))), .val (.int ((XT.ushr p1 (24 : Int32)) &&& (255 : Int32))), .val (.int r1), .val (.int r2), .val (.int r3), .val (.int r4), .val (.ref a5), .unset, .unset] [u33, u31, (.int (0 : Int32)), (.ref a25), (.ref a25)]))
      refine Go.st (S' := T33.setTop (mkF m 185 #[.val (.int p0), .val (.int p1), .val (.int p2), .val (.int p3), .val (.int p4), .val (.int (p0 &&& (3 : Int32))), .val (.int ((XT.ushr p0 (2 : Int32)) &&& (3 : Int32))), .val (.int ((XT.ushr p0 (4 : Int32)) &&& (3 : Int32))), .val (.int ((XT.ushr p0 (6 : Int32)) &&& (3 : Int32))), .val (.int (p1 &&& (255 : Int32))), .val (.int ((XT.ushr p1 (8 : Int32)) &&& (255 : Int32))), .val (.int ((XT.ushr p1 (16 : Int32)) &&& (255 : Int32))), .val (.int ((XT.ushr p1 (24 : Int32)) &&& (255 : Int32))), .val (.int r1), .val (.int r2), .val (.int r3), .val (.int r4), .val (.ref a5), .unset, .unset] [(.int ((XT.ushr p0 (6 : Int32)) &&& (3 : Int32))), u33, u31, (.int (0 : Int32)), (.ref a25), (.ref a25)])) (fun t kt => XS.iload X33.here hx rfl (hb hby at_183) rfl kt) ?_
      refine Go.st (S' := T33.setTop (mkF m 187 #[.val (.int p0), .val (.int p1), .val (.int p2), .val (.int p3), .val (.int p4), .val (.int (p0 &&& (3 : Int32))), .val (.int ((XT.ushr p0 (2 : Int32)) &&& (3 : Int32))), .val (.int ((XT.ushr p0 (4 : Int32)) &&& (3 : Int32))), .val (.int ((XT.ushr p0 (6 : Int32)) &&& (3 : Int32))), .val (.int (p1 &&& (255 : Int32))), .val (.int ((XT.ushr p1 (8 : Int32)) &&& (255 : Int32))), .val (.int ((XT.ushr p1 (16 : Int32)) &&& (255 : Int32))), .val (.int ((XT.ushr p1 (24 : Int32)) &&& (255 : Int32))), .val (.int r1), .val (.int r2), .val (.int r3), .val (.int r4), .val (.ref a5), .unset, .unset] [(.int r3), (.int ((XT.ushr p0 (6 : Int32)) &&& (3 : Int32))), u33, u31, (.int (0 : Int32)), (.ref a25), (.ref a25)])) (fun t kt => XS.iload X33.here hx rfl (hb hby at_185) rfl kt) ?_
      refine Go.st (S' := T33.setTop (mkF m 189 #[.val (.int p0), .val (.int p1), .val (.int p2), .val (.int p3), .val (.int p4), .val (.int (p0 &&& (3 : Int32))), .val (.int ((XT.ushr p0 (2 : Int32)) &&& (3 : Int32))), .val (.int ((XT.ushr p0 (4 : Int32)) &&& (3 : Int32))), .val (.int ((XT.ushr p0 (6 : Int32)) &&& (3 : Int32))), .val (.int (p1 &&& (255 : Int32))), .val (.int ((XT.ushr p1 (8 : Int32)) &&& (255 : Int32))), .val (.int ((XT.ushr p1 (16 : Int32)) &&& (255 : Int32))), .val (.int ((XT.ushr p1 (24 : Int32)) &&& (255 : Int32))), .val (.int r1), .val (.int r2), .val (.int r3), .val (.int r4), .val (.ref a5), .unset, .unset] [(.int r4), (.int r3), (.int ((XT.ushr p0 (6 : Int32)) &&& (3 : Int32))), u33, u31, (.int (0 : Int32)), (.ref a25), (.ref a25)])) (fun t kt => XS.iload X33.here hx rfl (hb hby at_187) rfl kt) ?_
      have f37 := (own_sta_keep f32 K33' all0)
      have f39 := (f34.keep K33')
      have f40 := (A25.keep K33')
      refine Go.statW X33 hx hZ hEL C33.1 hS hk hown (hw _ (List.mem_of_getElem? (i := 13) rfl)) (hw _ (List.mem_of_getElem? (i := 14) rfl)) (hw _ (List.mem_of_getElem? (i := 2) rfl)) (hw _ (List.mem_of_getElem? (i := 15) rfl)) (by decide) (argsL := [(.int ((XT.ushr p0 (6 : Int32)) &&& (3 : Int32))), (.int r3), (.int r4)]) (rest := [u33, u31, (.int (0 : Int32)), (.ref a25), (.ref a25)]) (rmMK l Z a0 hw ((XT.ushr p0 (6 : Int32)) &&& (3 : Int32)) r3 r4 T33.heap n0 Z33 cs f37 hcs lo3 lo4) eh33 rfl (by rw [hml]; rfl) pd__III_Ljava_lang_String_ rfl (hb hby at_189) 5 (by simp [own_cat_r, own_cat_i, own_cat_n, own_cat_j, own_cat_d, XT.cat1 hu_u33, XT.cat1 hu31]) (by decide) (by decide) (by decide) (by decide) ?_
      intro v38 T38 L38 X38 hQ38 A38 hS
      have hk : T38.heap.size ≤ T38.heap.size := Nat.le_refl _
      have hZ := own_hZ hZ0 hS
      have hown := own_hown hown0 hS
      have f41 := (StrIs.keep f35 K33' all0)
      have f42 := (StrIs.keep f36 K33' all0)
      obtain ⟨u38, hv38, N38', K38', f38_0, f38_1⟩ := hQ38
      subst hv38
      have N38 := Fr.app N33 N38'
      have Z38 : n0 ≤ T38.heap.size := Nat.le_trans Z33 K38'.1
      have eh38 : T38.heap = T38.heap := rfl
      have C38 := CHr.trans C33 A38
      have hu_u38 := StrIs.isRef f38_1
      show Go pP eE below _ (T38.setTop (mkF m 192 #[.val (.int p0), .val (.int p1), .val (.int p2), .val (.int p3), .val (.int p4), .val (.int (p0 &&& (3 : Int32))), .val (.int ((XT.ushr p0 (2 : Int32)) &&& (3 : Int32))), .val (.int ((XT.ushr p0 (4 : Int32)) &&& (3 : Int32))), .val (.int ((XT.ushr p0 (6 : Int32)) &&& (3 : Int32))), .val (.int (p1 &&& (255 : Int32))), .val (.int ((XT.ushr p1 (8 : Int32)) &&& (255 : Int32))), .val (.int ((XT.ushr p1 (16 : Int32)) &&& (255 : Int32))), .val (.int ((XT.ushr p1 (24 : Int32)) &&& (255 : Int32))), .val (.int r1), .val (.int r2), .val (.int r3), .val (.int r4), .val (.ref a5), .unset, .unset] [u38, u33, u31, (.int (0 : Int32)), (.ref a25), (.ref a25)]))
      refine Go.st (S' := T38.setTop (mkF m 193 #[.val (.int p0), .val (.int p1), .val (.int p2), .val (.int p3), .val (.int p4), .val (.int (p0 &&& (3 : Int32))), .val (.int ((XT.ushr p0 (2 : Int32)) &&& (3 : Int32))), .val (.int ((XT.ushr p0 (4 : Int32)) &&& (3 : Int32))), .val (.int ((XT.ushr p0 (6 : Int32)) &&& (3 : Int32))), .val (.int (p1 &&& (255 : Int32))), .val (.int ((XT.ushr p1 (8 : Int32)) &&& (255 : Int32))), .val (.int ((XT.ushr p1 (16 : Int32)) &&& (255 : Int32))), .val (.int ((XT.ushr p1 (24 : Int32)) &&& (255 : Int32))), .val (.int r1), .val (.int r2), .val (.int r3), .val (.int r4), .val (.ref a5), .unset, .unset] [.null, u38, u33, u31, (.int (0 : Int32)), (.ref a25), (.ref a25)])) (fun t kt => XS.aconstNull X38.here hx rfl (hb hby at_192) kt) ?_
      have f43 := (f40.keep K38')
      have f44 := ((F25_descendants.keep K33' nin0).keep K38' nin0)
      have f45 := ((F25_kind.keep K33' nin0).keep K38' nin0)
      have f46 := ((F25_namespaceUri.keep K33' nin0).keep K38' nin0)
      have f47 := ((F25_localName.keep K33' nin0).keep K38' nin0)
      have f48 := ((F25_predicates.keep K33' nin0).keep K38' nin0)
      refine Go.init X38 hx hZ rfl hown (hw _ (List.mem_of_getElem? (i := 16) rfl)) (hw _ (List.mem_of_getElem? (i := 17) rfl)) (hw _ (List.mem_of_getElem? (i := 18) rfl)) (hw _ (List.mem_of_getElem? (i := 6) rfl)) (by decide) (b := a25) (argsL := [(.int (0 : Int32)), u31, u33, u38, .null]) (rest := [(.ref a25)]) (rmSI0 l Z a0 hw a25 u31 u33 u38 hu31 hu_u33 hu_u38 T38.heap n0 Z38 f43 (Nat.le_trans Z23 (Nat.le_of_eq g25.symm)) f44 f45 f46 f47 f48) eh38 rfl (by rw [hml]; rfl) pd__ZLcom_example_sunder_sunder_query_Step_Kind_Ljava_lang_String_Ljava_lang_String_Ljava_util_List__V rfl (hb hby at_193) 1 (Nat.le_refl _) (by decide) (by decide) (by decide) (by decide) ?_
      intro v49 T49 L49 X49 hQ49
      have f50 := (f39.keep K38')
      have f51 := (CHr.safe A38 f40.lt (CHr.safe A33 A25.lt (Safe.ext E25 C23.1 S25)))
      obtain ⟨hv49, N49', K49', f49_0, f49_1, f49_2⟩ := hQ49
      subst hv49
      have N49 := Fr.app N38 N49'
      have Z49 : n0 ≤ T49.heap.size := Nat.le_trans Z38 K49'.1
      have eh49 : T49.heap = T49.heap := rfl
      have C49 := CHr.trans C38 (CHr.keep K49' (allS f51 all0) C38.1)
      have hk := Nat.le_trans hk K49'.1
      show Go pP eE below _ (T49.setTop (mkF m 196 #[.val (.int p0), .val (.int p1), .val (.int p2), .val (.int p3), .val (.int p4), .val (.int (p0 &&& (3 : Int32))), .val (.int ((XT.ushr p0 (2 : Int32)) &&& (3 : Int32))), .val (.int ((XT.ushr p0 (4 : Int32)) &&& (3 : Int32))), .val (.int ((XT.ushr p0 (6 : Int32)) &&& (3 : Int32))), .val (.int (p1 &&& (255 : Int32))), .val (.int ((XT.ushr p1 (8 : Int32)) &&& (255 : Int32))), .val (.int ((XT.ushr p1 (16 : Int32)) &&& (255 : Int32))), .val (.int ((XT.ushr p1 (24 : Int32)) &&& (255 : Int32))), .val (.int r1), .val (.int r2), .val (.int r3), .val (.int r4), .val (.ref a5), .unset, .unset] [(.ref a25)]))
      refine Go.st (S' := T49.setTop (mkF m 198 #[.val (.int p0), .val (.int p1), .val (.int p2), .val (.int p3), .val (.int p4), .val (.int (p0 &&& (3 : Int32))), .val (.int ((XT.ushr p0 (2 : Int32)) &&& (3 : Int32))), .val (.int ((XT.ushr p0 (4 : Int32)) &&& (3 : Int32))), .val (.int ((XT.ushr p0 (6 : Int32)) &&& (3 : Int32))), .val (.int (p1 &&& (255 : Int32))), .val (.int ((XT.ushr p1 (8 : Int32)) &&& (255 : Int32))), .val (.int ((XT.ushr p1 (16 : Int32)) &&& (255 : Int32))), .val (.int ((XT.ushr p1 (24 : Int32)) &&& (255 : Int32))), .val (.int r1), .val (.int r2), .val (.int r3), .val (.int r4), .val (.ref a5), .val (.ref a25), .unset] [])) (fun t kt => XS.astore X49.here hx rfl (hb hby at_196) rfl rfl rfl kt) ?_
      refine Go.st (S' := T49.setTop (mkF m 200 #[.val (.int p0), .val (.int p1), .val (.int p2), .val (.int p3), .val (.int p4), .val (.int (p0 &&& (3 : Int32))), .val (.int ((XT.ushr p0 (2 : Int32)) &&& (3 : Int32))), .val (.int ((XT.ushr p0 (4 : Int32)) &&& (3 : Int32))), .val (.int ((XT.ushr p0 (6 : Int32)) &&& (3 : Int32))), .val (.int (p1 &&& (255 : Int32))), .val (.int ((XT.ushr p1 (8 : Int32)) &&& (255 : Int32))), .val (.int ((XT.ushr p1 (16 : Int32)) &&& (255 : Int32))), .val (.int ((XT.ushr p1 (24 : Int32)) &&& (255 : Int32))), .val (.int r1), .val (.int r2), .val (.int r3), .val (.int r4), .val (.ref a5), .val (.ref a25), .unset] [(.int (p0 &&& (3 : Int32)))])) (fun t kt => XS.iload X49.here hx rfl (hb hby at_198) rfl kt) ?_
      refine Go.st (S' := T49.setTop (mkF m 202 #[.val (.int p0), .val (.int p1), .val (.int p2), .val (.int p3), .val (.int p4), .val (.int (p0 &&& (3 : Int32))), .val (.int ((XT.ushr p0 (2 : Int32)) &&& (3 : Int32))), .val (.int ((XT.ushr p0 (4 : Int32)) &&& (3 : Int32))), .val (.int ((XT.ushr p0 (6 : Int32)) &&& (3 : Int32))), .val (.int (p1 &&& (255 : Int32))), .val (.int ((XT.ushr p1 (8 : Int32)) &&& (255 : Int32))), .val (.int ((XT.ushr p1 (16 : Int32)) &&& (255 : Int32))), .val (.int ((XT.ushr p1 (24 : Int32)) &&& (255 : Int32))), .val (.int r1), .val (.int r2), .val (.int r3), .val (.int r4), .val (.ref a5), .val (.ref a25), .unset] [(.int (p1 &&& (255 : Int32))), (.int (p0 &&& (3 : Int32)))])) (fun t kt => XS.iload X49.here hx rfl (hb hby at_200) rfl kt) ?_
      refine Go.st (S' := T49.setTop (mkF m 204 #[.val (.int p0), .val (.int p1), .val (.int p2), .val (.int p3), .val (.int p4), .val (.int (p0 &&& (3 : Int32))), .val (.int ((XT.ushr p0 (2 : Int32)) &&& (3 : Int32))), .val (.int ((XT.ushr p0 (4 : Int32)) &&& (3 : Int32))), .val (.int ((XT.ushr p0 (6 : Int32)) &&& (3 : Int32))), .val (.int (p1 &&& (255 : Int32))), .val (.int ((XT.ushr p1 (8 : Int32)) &&& (255 : Int32))), .val (.int ((XT.ushr p1 (16 : Int32)) &&& (255 : Int32))), .val (.int ((XT.ushr p1 (24 : Int32)) &&& (255 : Int32))), .val (.int r1), .val (.int r2), .val (.int r3), .val (.int r4), .val (.ref a5), .val (.ref a25), .unset] [(.int ((XT.ushr p1 (8 : Int32)) &&& (255 : Int32))), (.int (p1 &&& (255 : Int32))), (.int (p0 &&& (3 : Int32)))])) (fun t kt => XS.iload X49.here hx rfl (hb hby at_202) rfl kt) ?_
      refine Go.st (S' := T49.setTop (mkF m 206 #[.val (.int p0), .val (.int p1), .val (.int p2), .val (.int p3), .val (.int p4), .val (.int (p0 &&& (3 : Int32))), .val (.int ((XT.ushr p0 (2 : Int32)) &&& (3 : Int32))), .val (.int ((XT.ushr p0 (4 : Int32)) &&& (3 : Int32))), .val (.int ((XT.ushr p0 (6 : Int32)) &&& (3 : Int32))), .val (.int (p1 &&& (255 : Int32))), .val (.int ((XT.ushr p1 (8 : Int32)) &&& (255 : Int32))), .val (.int ((XT.ushr p1 (16 : Int32)) &&& (255 : Int32))), .val (.int ((XT.ushr p1 (24 : Int32)) &&& (255 : Int32))), .val (.int r1), .val (.int r2), .val (.int r3), .val (.int r4), .val (.ref a5), .val (.ref a25), .unset] [(.int ((XT.ushr p0 (4 : Int32)) &&& (3 : Int32))), (.int ((XT.ushr p1 (8 : Int32)) &&& (255 : Int32))), (.int (p1 &&& (255 : Int32))), (.int (p0 &&& (3 : Int32)))])) (fun t kt => XS.iload X49.here hx rfl (hb hby at_204) rfl kt) ?_
      refine Go.st (S' := T49.setTop (mkF m 208 #[.val (.int p0), .val (.int p1), .val (.int p2), .val (.int p3), .val (.int p4), .val (.int (p0 &&& (3 : Int32))), .val (.int ((XT.ushr p0 (2 : Int32)) &&& (3 : Int32))), .val (.int ((XT.ushr p0 (4 : Int32)) &&& (3 : Int32))), .val (.int ((XT.ushr p0 (6 : Int32)) &&& (3 : Int32))), .val (.int (p1 &&& (255 : Int32))), .val (.int ((XT.ushr p1 (8 : Int32)) &&& (255 : Int32))), .val (.int ((XT.ushr p1 (16 : Int32)) &&& (255 : Int32))), .val (.int ((XT.ushr p1 (24 : Int32)) &&& (255 : Int32))), .val (.int r1), .val (.int r2), .val (.int r3), .val (.int r4), .val (.ref a5), .val (.ref a25), .unset] [(.int r1), (.int ((XT.ushr p0 (4 : Int32)) &&& (3 : Int32))), (.int ((XT.ushr p1 (8 : Int32)) &&& (255 : Int32))), (.int (p1 &&& (255 : Int32))), (.int (p0 &&& (3 : Int32)))])) (fun t kt => XS.iload X49.here hx rfl (hb hby at_206) rfl kt) ?_
      refine Go.st (S' := T49.setTop (mkF m 210 #[.val (.int p0), .val (.int p1), .val (.int p2), .val (.int p3), .val (.int p4), .val (.int (p0 &&& (3 : Int32))), .val (.int ((XT.ushr p0 (2 : Int32)) &&& (3 : Int32))), .val (.int ((XT.ushr p0 (4 : Int32)) &&& (3 : Int32))), .val (.int ((XT.ushr p0 (6 : Int32)) &&& (3 : Int32))), .val (.int (p1 &&& (255 : Int32))), .val (.int ((XT.ushr p1 (8 : Int32)) &&& (255 : Int32))), .val (.int ((XT.ushr p1 (16 : Int32)) &&& (255 : Int32))), .val (.int ((XT.ushr p1 (24 : Int32)) &&& (255 : Int32))), .val (.int r1), .val (.int r2), .val (.int r3), .val (.int r4), .val (.ref a5), .val (.ref a25), .unset] [(.int r2), (.int r1), (.int ((XT.ushr p0 (4 : Int32)) &&& (3 : Int32))), (.int ((XT.ushr p1 (8 : Int32)) &&& (255 : Int32))), (.int (p1 &&& (255 : Int32))), (.int (p0 &&& (3 : Int32)))])) (fun t kt => XS.iload X49.here hx rfl (hb hby at_208) rfl kt) ?_
      refine Go.stat X49 hx hZ hown (hw _ (List.mem_of_getElem? (i := 37) rfl)) (hw _ (List.mem_of_getElem? (i := 38) rfl)) (hw _ (List.mem_of_getElem? (i := 2) rfl)) (hw _ (List.mem_of_getElem? (i := 39) rfl)) (by decide) (argsL := [(.int (p0 &&& (3 : Int32))), (.int (p1 &&& (255 : Int32))), (.int ((XT.ushr p1 (8 : Int32)) &&& (255 : Int32))), (.int ((XT.ushr p0 (4 : Int32)) &&& (3 : Int32))), (.int r1), (.int r2)]) (rest := []) (rmCV l Z a0 hw (p0 &&& (3 : Int32)) (p1 &&& (255 : Int32)) ((XT.ushr p1 (8 : Int32)) &&& (255 : Int32)) ((XT.ushr p0 (4 : Int32)) &&& (3 : Int32)) r1 r2 T49.heap n0 Z49) eh49 rfl (by rw [hml]; rfl) pd__IIIIII_Z rfl (hb hby at_210) 0 (Nat.le_refl _) (by decide) (by decide) (by decide) (by decide) ?_
      intro v52 T52 L52 X52 hQ52
      obtain ⟨hv52, N52', e52⟩ := hQ52
      subst hv52
      have N52 := Fr.app N49 N52'
      show Go pP eE below _ (T52.setTop (mkF m 213 #[.val (.int p0), .val (.int p1), .val (.int p2), .val (.int p3), .val (.int p4), .val (.int (p0 &&& (3 : Int32))), .val (.int ((XT.ushr p0 (2 : Int32)) &&& (3 : Int32))), .val (.int ((XT.ushr p0 (4 : Int32)) &&& (3 : Int32))), .val (.int ((XT.ushr p0 (6 : Int32)) &&& (3 : Int32))), .val (.int (p1 &&& (255 : Int32))), .val (.int ((XT.ushr p1 (8 : Int32)) &&& (255 : Int32))), .val (.int ((XT.ushr p1 (16 : Int32)) &&& (255 : Int32))), .val (.int ((XT.ushr p1 (24 : Int32)) &&& (255 : Int32))), .val (.int r1), .val (.int r2), .val (.int r3), .val (.int r4), .val (.ref a5), .val (.ref a25), .unset] [(.int (own_cov (p0 &&& (3 : Int32)) (p1 &&& (255 : Int32)) ((XT.ushr p1 (8 : Int32)) &&& (255 : Int32)) ((XT.ushr p0 (4 : Int32)) &&& (3 : Int32)) r1 r2))]))
      by_cases hc213_53 : (own_cov (p0 &&& (3 : Int32)) (p1 &&& (255 : Int32)) ((XT.ushr p1 (8 : Int32)) &&& (255 : Int32)) ((XT.ushr p0 (4 : Int32)) &&& (3 : Int32)) r1 r2) = 0
      · refine Go.st (S' := T52.setTop (mkF m 238 #[.val (.int p0), .val (.int p1), .val (.int p2), .val (.int p3), .val (.int p4), .val (.int (p0 &&& (3 : Int32))), .val (.int ((XT.ushr p0 (2 : Int32)) &&& (3 : Int32))), .val (.int ((XT.ushr p0 (4 : Int32)) &&& (3 : Int32))), .val (.int ((XT.ushr p0 (6 : Int32)) &&& (3 : Int32))), .val (.int (p1 &&& (255 : Int32))), .val (.int ((XT.ushr p1 (8 : Int32)) &&& (255 : Int32))), .val (.int ((XT.ushr p1 (16 : Int32)) &&& (255 : Int32))), .val (.int ((XT.ushr p1 (24 : Int32)) &&& (255 : Int32))), .val (.int r1), .val (.int r2), .val (.int r3), .val (.int r4), .val (.ref a5), .val (.ref a25), .unset] [])) (fun t kt => XS.ifYes X52.here hx rfl (pc0 := 213) (pc' := 238) rfl (hb hby at_213) rfl (XT.i0_eq_t hc213_53) (by decide) (by decide) kt) ?_
        refine Go.st (S' := T52.setTop (mkF m 239 #[.val (.int p0), .val (.int p1), .val (.int p2), .val (.int p3), .val (.int p4), .val (.int (p0 &&& (3 : Int32))), .val (.int ((XT.ushr p0 (2 : Int32)) &&& (3 : Int32))), .val (.int ((XT.ushr p0 (4 : Int32)) &&& (3 : Int32))), .val (.int ((XT.ushr p0 (6 : Int32)) &&& (3 : Int32))), .val (.int (p1 &&& (255 : Int32))), .val (.int ((XT.ushr p1 (8 : Int32)) &&& (255 : Int32))), .val (.int ((XT.ushr p1 (16 : Int32)) &&& (255 : Int32))), .val (.int ((XT.ushr p1 (24 : Int32)) &&& (255 : Int32))), .val (.int r1), .val (.int r2), .val (.int r3), .val (.int r4), .val (.ref a5), .val (.ref a25), .unset] [(.int (0 : Int32))])) (fun t kt => XS.iconst X52.here hx rfl (hb hby at_238) kt) ?_
        refine Go.st (S' := T52.setTop (mkF m 241 #[.val (.int p0), .val (.int p1), .val (.int p2), .val (.int p3), .val (.int p4), .val (.int (p0 &&& (3 : Int32))), .val (.int ((XT.ushr p0 (2 : Int32)) &&& (3 : Int32))), .val (.int ((XT.ushr p0 (4 : Int32)) &&& (3 : Int32))), .val (.int ((XT.ushr p0 (6 : Int32)) &&& (3 : Int32))), .val (.int (p1 &&& (255 : Int32))), .val (.int ((XT.ushr p1 (8 : Int32)) &&& (255 : Int32))), .val (.int ((XT.ushr p1 (16 : Int32)) &&& (255 : Int32))), .val (.int ((XT.ushr p1 (24 : Int32)) &&& (255 : Int32))), .val (.int r1), .val (.int r2), .val (.int r3), .val (.int r4), .val (.ref a5), .val (.ref a25), .val (.int (0 : Int32))] [])) (fun t kt => XS.istore X52.here hx rfl (hb hby at_239) rfl rfl kt) ?_
        refine Go.st (S' := T52.setTop (mkF m 243 #[.val (.int p0), .val (.int p1), .val (.int p2), .val (.int p3), .val (.int p4), .val (.int (p0 &&& (3 : Int32))), .val (.int ((XT.ushr p0 (2 : Int32)) &&& (3 : Int32))), .val (.int ((XT.ushr p0 (4 : Int32)) &&& (3 : Int32))), .val (.int ((XT.ushr p0 (6 : Int32)) &&& (3 : Int32))), .val (.int (p1 &&& (255 : Int32))), .val (.int ((XT.ushr p1 (8 : Int32)) &&& (255 : Int32))), .val (.int ((XT.ushr p1 (16 : Int32)) &&& (255 : Int32))), .val (.int ((XT.ushr p1 (24 : Int32)) &&& (255 : Int32))), .val (.int r1), .val (.int r2), .val (.int r3), .val (.int r4), .val (.ref a5), .val (.ref a25), .val (.int (0 : Int32))] [(.ref a5)])) (fun t kt => XS.aload X52.here hx rfl (hb hby at_241) rfl rfl kt) ?_
        refine Go.st (S' := T52.setTop (mkF m 245 #[.val (.int p0), .val (.int p1), .val (.int p2), .val (.int p3), .val (.int p4), .val (.int (p0 &&& (3 : Int32))), .val (.int ((XT.ushr p0 (2 : Int32)) &&& (3 : Int32))), .val (.int ((XT.ushr p0 (4 : Int32)) &&& (3 : Int32))), .val (.int ((XT.ushr p0 (6 : Int32)) &&& (3 : Int32))), .val (.int (p1 &&& (255 : Int32))), .val (.int ((XT.ushr p1 (8 : Int32)) &&& (255 : Int32))), .val (.int ((XT.ushr p1 (16 : Int32)) &&& (255 : Int32))), .val (.int ((XT.ushr p1 (24 : Int32)) &&& (255 : Int32))), .val (.int r1), .val (.int r2), .val (.int r3), .val (.int r4), .val (.ref a5), .val (.ref a25), .val (.int (0 : Int32))] [(.ref a25), (.ref a5)])) (fun t kt => XS.aload X52.here hx rfl (hb hby at_243) rfl rfl kt) ?_
        have f54 := (own_sta_keep (own_sta_keep f37 K38' all0) K49' (allS (own_obj_exa f43) all0))
        have f55 := (f50.keep K49')
        have f56 := ((((f23_1.ext E25).keep K33' nin0).keep K38' nin0).keep K49' (ninS (Nat.ne_of_lt (by rw [g25]; exact f23_0.lt)) nin0))
        have f57 := ((((f23_2.ext E25).keep K33' nin0).keep K38' nin0).keep K49' (ninS (Nat.ne_of_lt (by rw [g25]; exact f23_0.lt)) nin0))
        have f58 := (StrIs.keep (StrIs.keep f41 K38' all0) K49' (allS (own_nostr f43 (by decide) (hw _ (List.mem_of_getElem? (i := 5) rfl))) all0))
        have f59 := (StrIs.keep (StrIs.keep f42 K38' all0) K49' (allS (own_nostr f43 (by decide) (hw _ (List.mem_of_getElem? (i := 5) rfl))) all0))
        have f60 := (StrIs.keep (StrIs.keep f33_1 K38' all0) K49' (allS (own_nostr f43 (by decide) (hw _ (List.mem_of_getElem? (i := 5) rfl))) all0))
        have f61 := (StrIs.keep f38_1 K49' (allS (own_nostr f43 (by decide) (hw _ (List.mem_of_getElem? (i := 5) rfl))) all0))
        refine Go.virt X52 hx hZ hown (hw _ (List.mem_of_getElem? (i := 40) rfl)) (hw _ (List.mem_of_getElem? (i := 41) rfl)) (notFace_of_selects (mvT (args := #[]) hZ (hw _ (List.mem_of_getElem? (i := 43) rfl)))) (hw _ (List.mem_of_getElem? (i := 43) rfl)) (hw _ (List.mem_of_getElem? (i := 42) rfl)) (hw _ (List.mem_of_getElem? (i := 44) rfl)) (hw _ (List.mem_of_getElem? (i := 6) rfl)) (by decide) (b := a5) (argsL := [(.ref a25)]) (rest := []) (rmAE l Z a0 hw a5 a25 u13 u15 u33 u38 (own_co (p0 &&& (3 : Int32)) (p1 &&& (255 : Int32)) ((XT.ushr p1 (8 : Int32)) &&& (255 : Int32))) (own_co ((XT.ushr p0 (2 : Int32)) &&& (3 : Int32)) ((XT.ushr p1 (16 : Int32)) &&& (255 : Int32)) ((XT.ushr p1 (24 : Int32)) &&& (255 : Int32))) (own_co ((XT.ushr p0 (4 : Int32)) &&& (3 : Int32)) r1 r2) (own_co ((XT.ushr p0 (6 : Int32)) &&& (3 : Int32)) r3 r4) T49.heap n0 Z49 cs f54 hcs f55 f56 f57 f49_1 f49_2 hu_u33 hu_u38 f58 f59 f60 f61 (StrIs.sep f35 f33_0) (StrIs.sep f42 f38_0)) e52 f55 rfl (by rw [hml]; rfl) pd__Lcom_example_sunder_sunder_query_Step__Z rfl (hb hby at_245) 0 (Nat.le_refl _) (by decide) (by decide) (by decide) (by decide) ?_
        intro v62 T62 L62 X62 hQ62
        obtain ⟨hv62, N62', e62⟩ := hQ62
        subst hv62
        have N62 := Fr.app N52 N62'
        show Go pP eE below _ (T62.setTop (mkF m 248 #[.val (.int p0), .val (.int p1), .val (.int p2), .val (.int p3), .val (.int p4), .val (.int (p0 &&& (3 : Int32))), .val (.int ((XT.ushr p0 (2 : Int32)) &&& (3 : Int32))), .val (.int ((XT.ushr p0 (4 : Int32)) &&& (3 : Int32))), .val (.int ((XT.ushr p0 (6 : Int32)) &&& (3 : Int32))), .val (.int (p1 &&& (255 : Int32))), .val (.int ((XT.ushr p1 (8 : Int32)) &&& (255 : Int32))), .val (.int ((XT.ushr p1 (16 : Int32)) &&& (255 : Int32))), .val (.int ((XT.ushr p1 (24 : Int32)) &&& (255 : Int32))), .val (.int r1), .val (.int r2), .val (.int r3), .val (.int r4), .val (.ref a5), .val (.ref a25), .val (.int (0 : Int32))] [(.int (own_adm (own_co (p0 &&& (3 : Int32)) (p1 &&& (255 : Int32)) ((XT.ushr p1 (8 : Int32)) &&& (255 : Int32))) (own_co ((XT.ushr p0 (2 : Int32)) &&& (3 : Int32)) ((XT.ushr p1 (16 : Int32)) &&& (255 : Int32)) ((XT.ushr p1 (24 : Int32)) &&& (255 : Int32))) (own_co ((XT.ushr p0 (4 : Int32)) &&& (3 : Int32)) r1 r2) (own_co ((XT.ushr p0 (6 : Int32)) &&& (3 : Int32)) r3 r4)))]))
        refine Go.st (S' := T62.setTop (mkF m 250 #[.val (.int p0), .val (.int p1), .val (.int p2), .val (.int p3), .val (.int p4), .val (.int (p0 &&& (3 : Int32))), .val (.int ((XT.ushr p0 (2 : Int32)) &&& (3 : Int32))), .val (.int ((XT.ushr p0 (4 : Int32)) &&& (3 : Int32))), .val (.int ((XT.ushr p0 (6 : Int32)) &&& (3 : Int32))), .val (.int (p1 &&& (255 : Int32))), .val (.int ((XT.ushr p1 (8 : Int32)) &&& (255 : Int32))), .val (.int ((XT.ushr p1 (16 : Int32)) &&& (255 : Int32))), .val (.int ((XT.ushr p1 (24 : Int32)) &&& (255 : Int32))), .val (.int r1), .val (.int r2), .val (.int r3), .val (.int r4), .val (.ref a5), .val (.ref a25), .val (.int (0 : Int32))] [(.int (0 : Int32)), (.int (own_adm (own_co (p0 &&& (3 : Int32)) (p1 &&& (255 : Int32)) ((XT.ushr p1 (8 : Int32)) &&& (255 : Int32))) (own_co ((XT.ushr p0 (2 : Int32)) &&& (3 : Int32)) ((XT.ushr p1 (16 : Int32)) &&& (255 : Int32)) ((XT.ushr p1 (24 : Int32)) &&& (255 : Int32))) (own_co ((XT.ushr p0 (4 : Int32)) &&& (3 : Int32)) r1 r2) (own_co ((XT.ushr p0 (6 : Int32)) &&& (3 : Int32)) r3 r4)))])) (fun t kt => XS.iload X62.here hx rfl (hb hby at_248) rfl kt) ?_
        refine Go.st (S' := T62.setTop (mkF m 253 #[.val (.int p0), .val (.int p1), .val (.int p2), .val (.int p3), .val (.int p4), .val (.int (p0 &&& (3 : Int32))), .val (.int ((XT.ushr p0 (2 : Int32)) &&& (3 : Int32))), .val (.int ((XT.ushr p0 (4 : Int32)) &&& (3 : Int32))), .val (.int ((XT.ushr p0 (6 : Int32)) &&& (3 : Int32))), .val (.int (p1 &&& (255 : Int32))), .val (.int ((XT.ushr p1 (8 : Int32)) &&& (255 : Int32))), .val (.int ((XT.ushr p1 (16 : Int32)) &&& (255 : Int32))), .val (.int ((XT.ushr p1 (24 : Int32)) &&& (255 : Int32))), .val (.int r1), .val (.int r2), .val (.int r3), .val (.int r4), .val (.ref a5), .val (.ref a25), .val (.int (0 : Int32))] [])) (fun t kt => XS.icmpNo X62.here hx rfl (hb hby at_250) rfl (XT.ii_ne_f ((own_fin (own_mask4 _) (own_mask4 _) (own_mask4 _) (own_mask4 _) ⟨_, rfl⟩ ⟨_, rfl⟩ lo1 lo2 ⟨_, rfl⟩ ⟨_, rfl⟩ lo3 lo4).trans (by simp [hc213_53]))) kt) ?_
        refine Go.st (S' := T62.setTop (mkF m 254 #[.val (.int p0), .val (.int p1), .val (.int p2), .val (.int p3), .val (.int p4), .val (.int (p0 &&& (3 : Int32))), .val (.int ((XT.ushr p0 (2 : Int32)) &&& (3 : Int32))), .val (.int ((XT.ushr p0 (4 : Int32)) &&& (3 : Int32))), .val (.int ((XT.ushr p0 (6 : Int32)) &&& (3 : Int32))), .val (.int (p1 &&& (255 : Int32))), .val (.int ((XT.ushr p1 (8 : Int32)) &&& (255 : Int32))), .val (.int ((XT.ushr p1 (16 : Int32)) &&& (255 : Int32))), .val (.int ((XT.ushr p1 (24 : Int32)) &&& (255 : Int32))), .val (.int r1), .val (.int r2), .val (.int r3), .val (.int r4), .val (.ref a5), .val (.ref a25), .val (.int (0 : Int32))] [(.int (1 : Int32))])) (fun t kt => XS.iconst X62.here hx rfl (hb hby at_253) kt) ?_
        refine Go.st (S' := T62.setTop (mkF m 258 #[.val (.int p0), .val (.int p1), .val (.int p2), .val (.int p3), .val (.int p4), .val (.int (p0 &&& (3 : Int32))), .val (.int ((XT.ushr p0 (2 : Int32)) &&& (3 : Int32))), .val (.int ((XT.ushr p0 (4 : Int32)) &&& (3 : Int32))), .val (.int ((XT.ushr p0 (6 : Int32)) &&& (3 : Int32))), .val (.int (p1 &&& (255 : Int32))), .val (.int ((XT.ushr p1 (8 : Int32)) &&& (255 : Int32))), .val (.int ((XT.ushr p1 (16 : Int32)) &&& (255 : Int32))), .val (.int ((XT.ushr p1 (24 : Int32)) &&& (255 : Int32))), .val (.int r1), .val (.int r2), .val (.int r3), .val (.int r4), .val (.ref a5), .val (.ref a25), .val (.int (0 : Int32))] [(.int (1 : Int32))])) (fun t kt => XS.goto X62.here hx rfl (pc0 := 254) (pc' := 258) rfl (hb hby at_254) (by decide) (by decide) kt) ?_
        exact retw_b X62 hZ hEL e62 C49 hS hk hx hlk hret (hb hby at_258) (by decide) (by decide) (⟨rfl, N62⟩)
      · refine Go.st (S' := T52.setTop (mkF m 216 #[.val (.int p0), .val (.int p1), .val (.int p2), .val (.int p3), .val (.int p4), .val (.int (p0 &&& (3 : Int32))), .val (.int ((XT.ushr p0 (2 : Int32)) &&& (3 : Int32))), .val (.int ((XT.ushr p0 (4 : Int32)) &&& (3 : Int32))), .val (.int ((XT.ushr p0 (6 : Int32)) &&& (3 : Int32))), .val (.int (p1 &&& (255 : Int32))), .val (.int ((XT.ushr p1 (8 : Int32)) &&& (255 : Int32))), .val (.int ((XT.ushr p1 (16 : Int32)) &&& (255 : Int32))), .val (.int ((XT.ushr p1 (24 : Int32)) &&& (255 : Int32))), .val (.int r1), .val (.int r2), .val (.int r3), .val (.int r4), .val (.ref a5), .val (.ref a25), .unset] [])) (fun t kt => XS.ifNo X52.here hx rfl (hb hby at_213) rfl (XT.i0_eq_f hc213_53) kt) ?_
        refine Go.st (S' := T52.setTop (mkF m 218 #[.val (.int p0), .val (.int p1), .val (.int p2), .val (.int p3), .val (.int p4), .val (.int (p0 &&& (3 : Int32))), .val (.int ((XT.ushr p0 (2 : Int32)) &&& (3 : Int32))), .val (.int ((XT.ushr p0 (4 : Int32)) &&& (3 : Int32))), .val (.int ((XT.ushr p0 (6 : Int32)) &&& (3 : Int32))), .val (.int (p1 &&& (255 : Int32))), .val (.int ((XT.ushr p1 (8 : Int32)) &&& (255 : Int32))), .val (.int ((XT.ushr p1 (16 : Int32)) &&& (255 : Int32))), .val (.int ((XT.ushr p1 (24 : Int32)) &&& (255 : Int32))), .val (.int r1), .val (.int r2), .val (.int r3), .val (.int r4), .val (.ref a5), .val (.ref a25), .unset] [(.int ((XT.ushr p0 (2 : Int32)) &&& (3 : Int32)))])) (fun t kt => XS.iload X52.here hx rfl (hb hby at_216) rfl kt) ?_
        refine Go.st (S' := T52.setTop (mkF m 220 #[.val (.int p0), .val (.int p1), .val (.int p2), .val (.int p3), .val (.int p4), .val (.int (p0 &&& (3 : Int32))), .val (.int ((XT.ushr p0 (2 : Int32)) &&& (3 : Int32))), .val (.int ((XT.ushr p0 (4 : Int32)) &&& (3 : Int32))), .val (.int ((XT.ushr p0 (6 : Int32)) &&& (3 : Int32))), .val (.int (p1 &&& (255 : Int32))), .val (.int ((XT.ushr p1 (8 : Int32)) &&& (255 : Int32))), .val (.int ((XT.ushr p1 (16 : Int32)) &&& (255 : Int32))), .val (.int ((XT.ushr p1 (24 : Int32)) &&& (255 : Int32))), .val (.int r1), .val (.int r2), .val (.int r3), .val (.int r4), .val (.ref a5), .val (.ref a25), .unset] [(.int ((XT.ushr p1 (16 : Int32)) &&& (255 : Int32))), (.int ((XT.ushr p0 (2 : Int32)) &&& (3 : Int32)))])) (fun t kt => XS.iload X52.here hx rfl (hb hby at_218) rfl kt) ?_
        refine Go.st (S' := T52.setTop (mkF m 222 #[.val (.int p0), .val (.int p1), .val (.int p2), .val (.int p3), .val (.int p4), .val (.int (p0 &&& (3 : Int32))), .val (.int ((XT.ushr p0 (2 : Int32)) &&& (3 : Int32))), .val (.int ((XT.ushr p0 (4 : Int32)) &&& (3 : Int32))), .val (.int ((XT.ushr p0 (6 : Int32)) &&& (3 : Int32))), .val (.int (p1 &&& (255 : Int32))), .val (.int ((XT.ushr p1 (8 : Int32)) &&& (255 : Int32))), .val (.int ((XT.ushr p1 (16 : Int32)) &&& (255 : Int32))), .val (.int ((XT.ushr p1 (24 : Int32)) &&& (255 : Int32))), .val (.int r1), .val (.int r2), .val (.int r3), .val (.int r4), .val (.ref a5), .val (.ref a25), .unset] [(.int ((XT.ushr p1 (24 : Int32)) &&& (255 : Int32))), (.int ((XT.ushr p1 (16 : Int32)) &&& (255 : Int32))), (.int ((XT.ushr p0 (2 : Int32)) &&& (3 : Int32)))])) (fun t kt => XS.iload X52.here hx rfl (hb hby at_220) rfl kt) ?_
        refine Go.st (S' := T52.setTop (mkF m 224 #[.val (.int p0), .val (.int p1), .val (.int p2), .val (.int p3), .val (.int p4), .val (.int (p0 &&& (3 : Int32))), .val (.int ((XT.ushr p0 (2 : Int32)) &&& (3 : Int32))), .val (.int ((XT.ushr p0 (4 : Int32)) &&& (3 : Int32))), .val (.int ((XT.ushr p0 (6 : Int32)) &&& (3 : Int32))), .val (.int (p1 &&& (255 : Int32))), .val (.int ((XT.ushr p1 (8 : Int32)) &&& (255 : Int32))), .val (.int ((XT.ushr p1 (16 : Int32)) &&& (255 : Int32))), .val (.int ((XT.ushr p1 (24 : Int32)) &&& (255 : Int32))), .val (.int r1), .val (.int r2), .val (.int r3), .val (.int r4), .val (.ref a5), .val (.ref a25), .unset] [(.int ((XT.ushr p0 (6 : Int32)) &&& (3 : Int32))), (.int ((XT.ushr p1 (24 : Int32)) &&& (255 : Int32))), (.int ((XT.ushr p1 (16 : Int32)) &&& (255 : Int32))), (.int ((XT.ushr p0 (2 : Int32)) &&& (3 : Int32)))])) (fun t kt => XS.iload X52.here hx rfl (hb hby at_222) rfl kt) ?_
        refine Go.st (S' := T52.setTop (mkF m 226 #[.val (.int p0), .val (.int p1), .val (.int p2), .val (.int p3), .val (.int p4), .val (.int (p0 &&& (3 : Int32))), .val (.int ((XT.ushr p0 (2 : Int32)) &&& (3 : Int32))), .val (.int ((XT.ushr p0 (4 : Int32)) &&& (3 : Int32))), .val (.int ((XT.ushr p0 (6 : Int32)) &&& (3 : Int32))), .val (.int (p1 &&& (255 : Int32))), .val (.int ((XT.ushr p1 (8 : Int32)) &&& (255 : Int32))), .val (.int ((XT.ushr p1 (16 : Int32)) &&& (255 : Int32))), .val (.int ((XT.ushr p1 (24 : Int32)) &&& (255 : Int32))), .val (.int r1), .val (.int r2), .val (.int r3), .val (.int r4), .val (.ref a5), .val (.ref a25), .unset] [(.int r3), (.int ((XT.ushr p0 (6 : Int32)) &&& (3 : Int32))), (.int ((XT.ushr p1 (24 : Int32)) &&& (255 : Int32))), (.int ((XT.ushr p1 (16 : Int32)) &&& (255 : Int32))), (.int ((XT.ushr p0 (2 : Int32)) &&& (3 : Int32)))])) (fun t kt => XS.iload X52.here hx rfl (hb hby at_224) rfl kt) ?_
        refine Go.st (S' := T52.setTop (mkF m 228 #[.val (.int p0), .val (.int p1), .val (.int p2), .val (.int p3), .val (.int p4), .val (.int (p0 &&& (3 : Int32))), .val (.int ((XT.ushr p0 (2 : Int32)) &&& (3 : Int32))), .val (.int ((XT.ushr p0 (4 : Int32)) &&& (3 : Int32))), .val (.int ((XT.ushr p0 (6 : Int32)) &&& (3 : Int32))), .val (.int (p1 &&& (255 : Int32))), .val (.int ((XT.ushr p1 (8 : Int32)) &&& (255 : Int32))), .val (.int ((XT.ushr p1 (16 : Int32)) &&& (255 : Int32))), .val (.int ((XT.ushr p1 (24 : Int32)) &&& (255 : Int32))), .val (.int r1), .val (.int r2), .val (.int r3), .val (.int r4), .val (.ref a5), .val (.ref a25), .unset] [(.int r4), (.int r3), (.int ((XT.ushr p0 (6 : Int32)) &&& (3 : Int32))), (.int ((XT.ushr p1 (24 : Int32)) &&& (255 : Int32))), (.int ((XT.ushr p1 (16 : Int32)) &&& (255 : Int32))), (.int ((XT.ushr p0 (2 : Int32)) &&& (3 : Int32)))])) (fun t kt => XS.iload X52.here hx rfl (hb hby at_226) rfl kt) ?_
        refine Go.stat X52 hx hZ hown (hw _ (List.mem_of_getElem? (i := 37) rfl)) (hw _ (List.mem_of_getElem? (i := 38) rfl)) (hw _ (List.mem_of_getElem? (i := 2) rfl)) (hw _ (List.mem_of_getElem? (i := 39) rfl)) (by decide) (argsL := [(.int ((XT.ushr p0 (2 : Int32)) &&& (3 : Int32))), (.int ((XT.ushr p1 (16 : Int32)) &&& (255 : Int32))), (.int ((XT.ushr p1 (24 : Int32)) &&& (255 : Int32))), (.int ((XT.ushr p0 (6 : Int32)) &&& (3 : Int32))), (.int r3), (.int r4)]) (rest := []) (rmCV l Z a0 hw ((XT.ushr p0 (2 : Int32)) &&& (3 : Int32)) ((XT.ushr p1 (16 : Int32)) &&& (255 : Int32)) ((XT.ushr p1 (24 : Int32)) &&& (255 : Int32)) ((XT.ushr p0 (6 : Int32)) &&& (3 : Int32)) r3 r4 T49.heap n0 Z49) e52 rfl (by rw [hml]; rfl) pd__IIIIII_Z rfl (hb hby at_228) 0 (Nat.le_refl _) (by decide) (by decide) (by decide) (by decide) ?_
        intro v63 T63 L63 X63 hQ63
        obtain ⟨hv63, N63', e63⟩ := hQ63
        subst hv63
        have N63 := Fr.app N52 N63'
        show Go pP eE below _ (T63.setTop (mkF m 231 #[.val (.int p0), .val (.int p1), .val (.int p2), .val (.int p3), .val (.int p4), .val (.int (p0 &&& (3 : Int32))), .val (.int ((XT.ushr p0 (2 : Int32)) &&& (3 : Int32))), .val (.int ((XT.ushr p0 (4 : Int32)) &&& (3 : Int32))), .val (.int ((XT.ushr p0 (6 : Int32)) &&& (3 : Int32))), .val (.int (p1 &&& (255 : Int32))), .val (.int ((XT.ushr p1 (8 : Int32)) &&& (255 : Int32))), .val (.int ((XT.ushr p1 (16 : Int32)) &&& (255 : Int32))), .val (.int ((XT.ushr p1 (24 : Int32)) &&& (255 : Int32))), .val (.int r1), .val (.int r2), .val (.int r3), .val (.int r4), .val (.ref a5), .val (.ref a25), .unset] [(.int (own_cov ((XT.ushr p0 (2 : Int32)) &&& (3 : Int32)) ((XT.ushr p1 (16 : Int32)) &&& (255 : Int32)) ((XT.ushr p1 (24 : Int32)) &&& (255 : Int32)) ((XT.ushr p0 (6 : Int32)) &&& (3 : Int32)) r3 r4))]))
        by_cases hc231_64 : (own_cov ((XT.ushr p0 (2 : Int32)) &&& (3 : Int32)) ((XT.ushr p1 (16 : Int32)) &&& (255 : Int32)) ((XT.ushr p1 (24 : Int32)) &&& (255 : Int32)) ((XT.ushr p0 (6 : Int32)) &&& (3 : Int32)) r3 r4) = 0
        · refine Go.st (S' := T63.setTop (mkF m 238 #[.val (.int p0), .val (.int p1), .val (.int p2), .val (.int p3), .val (.int p4), .val (.int (p0 &&& (3 : Int32))), .val (.int ((XT.ushr p0 (2 : Int32)) &&& (3 : Int32))), .val (.int ((XT.ushr p0 (4 : Int32)) &&& (3 : Int32))), .val (.int ((XT.ushr p0 (6 : Int32)) &&& (3 : Int32))), .val (.int (p1 &&& (255 : Int32))), .val (.int ((XT.ushr p1 (8 : Int32)) &&& (255 : Int32))), .val (.int ((XT.ushr p1 (16 : Int32)) &&& (255 : Int32))), .val (.int ((XT.ushr p1 (24 : Int32)) &&& (255 : Int32))), .val (.int r1), .val (.int r2), .val (.int r3), .val (.int r4), .val (.ref a5), .val (.ref a25), .unset] [])) (fun t kt => XS.ifYes X63.here hx rfl (pc0 := 231) (pc' := 238) rfl (hb hby at_231) rfl (XT.i0_eq_t hc231_64) (by decide) (by decide) kt) ?_
          refine Go.st (S' := T63.setTop (mkF m 239 #[.val (.int p0), .val (.int p1), .val (.int p2), .val (.int p3), .val (.int p4), .val (.int (p0 &&& (3 : Int32))), .val (.int ((XT.ushr p0 (2 : Int32)) &&& (3 : Int32))), .val (.int ((XT.ushr p0 (4 : Int32)) &&& (3 : Int32))), .val (.int ((XT.ushr p0 (6 : Int32)) &&& (3 : Int32))), .val (.int (p1 &&& (255 : Int32))), .val (.int ((XT.ushr p1 (8 : Int32)) &&& (255 : Int32))), .val (.int ((XT.ushr p1 (16 : Int32)) &&& (255 : Int32))), .val (.int ((XT.ushr p1 (24 : Int32)) &&& (255 : Int32))), .val (.int r1), .val (.int r2), .val (.int r3), .val (.int r4), .val (.ref a5), .val (.ref a25), .unset] [(.int (0 : Int32))])) (fun t kt => XS.iconst X63.here hx rfl (hb hby at_238) kt) ?_
          refine Go.st (S' := T63.setTop (mkF m 241 #[.val (.int p0), .val (.int p1), .val (.int p2), .val (.int p3), .val (.int p4), .val (.int (p0 &&& (3 : Int32))), .val (.int ((XT.ushr p0 (2 : Int32)) &&& (3 : Int32))), .val (.int ((XT.ushr p0 (4 : Int32)) &&& (3 : Int32))), .val (.int ((XT.ushr p0 (6 : Int32)) &&& (3 : Int32))), .val (.int (p1 &&& (255 : Int32))), .val (.int ((XT.ushr p1 (8 : Int32)) &&& (255 : Int32))), .val (.int ((XT.ushr p1 (16 : Int32)) &&& (255 : Int32))), .val (.int ((XT.ushr p1 (24 : Int32)) &&& (255 : Int32))), .val (.int r1), .val (.int r2), .val (.int r3), .val (.int r4), .val (.ref a5), .val (.ref a25), .val (.int (0 : Int32))] [])) (fun t kt => XS.istore X63.here hx rfl (hb hby at_239) rfl rfl kt) ?_
          refine Go.st (S' := T63.setTop (mkF m 243 #[.val (.int p0), .val (.int p1), .val (.int p2), .val (.int p3), .val (.int p4), .val (.int (p0 &&& (3 : Int32))), .val (.int ((XT.ushr p0 (2 : Int32)) &&& (3 : Int32))), .val (.int ((XT.ushr p0 (4 : Int32)) &&& (3 : Int32))), .val (.int ((XT.ushr p0 (6 : Int32)) &&& (3 : Int32))), .val (.int (p1 &&& (255 : Int32))), .val (.int ((XT.ushr p1 (8 : Int32)) &&& (255 : Int32))), .val (.int ((XT.ushr p1 (16 : Int32)) &&& (255 : Int32))), .val (.int ((XT.ushr p1 (24 : Int32)) &&& (255 : Int32))), .val (.int r1), .val (.int r2), .val (.int r3), .val (.int r4), .val (.ref a5), .val (.ref a25), .val (.int (0 : Int32))] [(.ref a5)])) (fun t kt => XS.aload X63.here hx rfl (hb hby at_241) rfl rfl kt) ?_
          refine Go.st (S' := T63.setTop (mkF m 245 #[.val (.int p0), .val (.int p1), .val (.int p2), .val (.int p3), .val (.int p4), .val (.int (p0 &&& (3 : Int32))), .val (.int ((XT.ushr p0 (2 : Int32)) &&& (3 : Int32))), .val (.int ((XT.ushr p0 (4 : Int32)) &&& (3 : Int32))), .val (.int ((XT.ushr p0 (6 : Int32)) &&& (3 : Int32))), .val (.int (p1 &&& (255 : Int32))), .val (.int ((XT.ushr p1 (8 : Int32)) &&& (255 : Int32))), .val (.int ((XT.ushr p1 (16 : Int32)) &&& (255 : Int32))), .val (.int ((XT.ushr p1 (24 : Int32)) &&& (255 : Int32))), .val (.int r1), .val (.int r2), .val (.int r3), .val (.int r4), .val (.ref a5), .val (.ref a25), .val (.int (0 : Int32))] [(.ref a25), (.ref a5)])) (fun t kt => XS.aload X63.here hx rfl (hb hby at_243) rfl rfl kt) ?_
          have f65 := (own_sta_keep (own_sta_keep f37 K38' all0) K49' (allS (own_obj_exa f43) all0))
          have f66 := (f50.keep K49')
          have f67 := ((((f23_1.ext E25).keep K33' nin0).keep K38' nin0).keep K49' (ninS (Nat.ne_of_lt (by rw [g25]; exact f23_0.lt)) nin0))
          have f68 := ((((f23_2.ext E25).keep K33' nin0).keep K38' nin0).keep K49' (ninS (Nat.ne_of_lt (by rw [g25]; exact f23_0.lt)) nin0))
          have f69 := (StrIs.keep (StrIs.keep f41 K38' all0) K49' (allS (own_nostr f43 (by decide) (hw _ (List.mem_of_getElem? (i := 5) rfl))) all0))
          have f70 := (StrIs.keep (StrIs.keep f42 K38' all0) K49' (allS (own_nostr f43 (by decide) (hw _ (List.mem_of_getElem? (i := 5) rfl))) all0))
          have f71 := (StrIs.keep (StrIs.keep f33_1 K38' all0) K49' (allS (own_nostr f43 (by decide) (hw _ (List.mem_of_getElem? (i := 5) rfl))) all0))
          have f72 := (StrIs.keep f38_1 K49' (allS (own_nostr f43 (by decide) (hw _ (List.mem_of_getElem? (i := 5) rfl))) all0))
          refine Go.virt X63 hx hZ hown (hw _ (List.mem_of_getElem? (i := 40) rfl)) (hw _ (List.mem_of_getElem? (i := 41) rfl)) (notFace_of_selects (mvT (args := #[]) hZ (hw _ (List.mem_of_getElem? (i := 43) rfl)))) (hw _ (List.mem_of_getElem? (i := 43) rfl)) (hw _ (List.mem_of_getElem? (i := 42) rfl)) (hw _ (List.mem_of_getElem? (i := 44) rfl)) (hw _ (List.mem_of_getElem? (i := 6) rfl)) (by decide) (b := a5) (argsL := [(.ref a25)]) (rest := []) (rmAE l Z a0 hw a5 a25 u13 u15 u33 u38 (own_co (p0 &&& (3 : Int32)) (p1 &&& (255 : Int32)) ((XT.ushr p1 (8 : Int32)) &&& (255 : Int32))) (own_co ((XT.ushr p0 (2 : Int32)) &&& (3 : Int32)) ((XT.ushr p1 (16 : Int32)) &&& (255 : Int32)) ((XT.ushr p1 (24 : Int32)) &&& (255 : Int32))) (own_co ((XT.ushr p0 (4 : Int32)) &&& (3 : Int32)) r1 r2) (own_co ((XT.ushr p0 (6 : Int32)) &&& (3 : Int32)) r3 r4) T49.heap n0 Z49 cs f65 hcs f66 f67 f68 f49_1 f49_2 hu_u33 hu_u38 f69 f70 f71 f72 (StrIs.sep f35 f33_0) (StrIs.sep f42 f38_0)) e63 f66 rfl (by rw [hml]; rfl) pd__Lcom_example_sunder_sunder_query_Step__Z rfl (hb hby at_245) 0 (Nat.le_refl _) (by decide) (by decide) (by decide) (by decide) ?_
          intro v73 T73 L73 X73 hQ73
          obtain ⟨hv73, N73', e73⟩ := hQ73
          subst hv73
          have N73 := Fr.app N63 N73'
          show Go pP eE below _ (T73.setTop (mkF m 248 #[.val (.int p0), .val (.int p1), .val (.int p2), .val (.int p3), .val (.int p4), .val (.int (p0 &&& (3 : Int32))), .val (.int ((XT.ushr p0 (2 : Int32)) &&& (3 : Int32))), .val (.int ((XT.ushr p0 (4 : Int32)) &&& (3 : Int32))), .val (.int ((XT.ushr p0 (6 : Int32)) &&& (3 : Int32))), .val (.int (p1 &&& (255 : Int32))), .val (.int ((XT.ushr p1 (8 : Int32)) &&& (255 : Int32))), .val (.int ((XT.ushr p1 (16 : Int32)) &&& (255 : Int32))), .val (.int ((XT.ushr p1 (24 : Int32)) &&& (255 : Int32))), .val (.int r1), .val (.int r2), .val (.int r3), .val (.int r4), .val (.ref a5), .val (.ref a25), .val (.int (0 : Int32))] [(.int (own_adm (own_co (p0 &&& (3 : Int32)) (p1 &&& (255 : Int32)) ((XT.ushr p1 (8 : Int32)) &&& (255 : Int32))) (own_co ((XT.ushr p0 (2 : Int32)) &&& (3 : Int32)) ((XT.ushr p1 (16 : Int32)) &&& (255 : Int32)) ((XT.ushr p1 (24 : Int32)) &&& (255 : Int32))) (own_co ((XT.ushr p0 (4 : Int32)) &&& (3 : Int32)) r1 r2) (own_co ((XT.ushr p0 (6 : Int32)) &&& (3 : Int32)) r3 r4)))]))
          refine Go.st (S' := T73.setTop (mkF m 250 #[.val (.int p0), .val (.int p1), .val (.int p2), .val (.int p3), .val (.int p4), .val (.int (p0 &&& (3 : Int32))), .val (.int ((XT.ushr p0 (2 : Int32)) &&& (3 : Int32))), .val (.int ((XT.ushr p0 (4 : Int32)) &&& (3 : Int32))), .val (.int ((XT.ushr p0 (6 : Int32)) &&& (3 : Int32))), .val (.int (p1 &&& (255 : Int32))), .val (.int ((XT.ushr p1 (8 : Int32)) &&& (255 : Int32))), .val (.int ((XT.ushr p1 (16 : Int32)) &&& (255 : Int32))), .val (.int ((XT.ushr p1 (24 : Int32)) &&& (255 : Int32))), .val (.int r1), .val (.int r2), .val (.int r3), .val (.int r4), .val (.ref a5), .val (.ref a25), .val (.int (0 : Int32))] [(.int (0 : Int32)), (.int (own_adm (own_co (p0 &&& (3 : Int32)) (p1 &&& (255 : Int32)) ((XT.ushr p1 (8 : Int32)) &&& (255 : Int32))) (own_co ((XT.ushr p0 (2 : Int32)) &&& (3 : Int32)) ((XT.ushr p1 (16 : Int32)) &&& (255 : Int32)) ((XT.ushr p1 (24 : Int32)) &&& (255 : Int32))) (own_co ((XT.ushr p0 (4 : Int32)) &&& (3 : Int32)) r1 r2) (own_co ((XT.ushr p0 (6 : Int32)) &&& (3 : Int32)) r3 r4)))])) (fun t kt => XS.iload X73.here hx rfl (hb hby at_248) rfl kt) ?_
          refine Go.st (S' := T73.setTop (mkF m 253 #[.val (.int p0), .val (.int p1), .val (.int p2), .val (.int p3), .val (.int p4), .val (.int (p0 &&& (3 : Int32))), .val (.int ((XT.ushr p0 (2 : Int32)) &&& (3 : Int32))), .val (.int ((XT.ushr p0 (4 : Int32)) &&& (3 : Int32))), .val (.int ((XT.ushr p0 (6 : Int32)) &&& (3 : Int32))), .val (.int (p1 &&& (255 : Int32))), .val (.int ((XT.ushr p1 (8 : Int32)) &&& (255 : Int32))), .val (.int ((XT.ushr p1 (16 : Int32)) &&& (255 : Int32))), .val (.int ((XT.ushr p1 (24 : Int32)) &&& (255 : Int32))), .val (.int r1), .val (.int r2), .val (.int r3), .val (.int r4), .val (.ref a5), .val (.ref a25), .val (.int (0 : Int32))] [])) (fun t kt => XS.icmpNo X73.here hx rfl (hb hby at_250) rfl (XT.ii_ne_f ((own_fin (own_mask4 _) (own_mask4 _) (own_mask4 _) (own_mask4 _) ⟨_, rfl⟩ ⟨_, rfl⟩ lo1 lo2 ⟨_, rfl⟩ ⟨_, rfl⟩ lo3 lo4).trans (by simp [hc213_53, hc231_64]))) kt) ?_
          refine Go.st (S' := T73.setTop (mkF m 254 #[.val (.int p0), .val (.int p1), .val (.int p2), .val (.int p3), .val (.int p4), .val (.int (p0 &&& (3 : Int32))), .val (.int ((XT.ushr p0 (2 : Int32)) &&& (3 : Int32))), .val (.int ((XT.ushr p0 (4 : Int32)) &&& (3 : Int32))), .val (.int ((XT.ushr p0 (6 : Int32)) &&& (3 : Int32))), .val (.int (p1 &&& (255 : Int32))), .val (.int ((XT.ushr p1 (8 : Int32)) &&& (255 : Int32))), .val (.int ((XT.ushr p1 (16 : Int32)) &&& (255 : Int32))), .val (.int ((XT.ushr p1 (24 : Int32)) &&& (255 : Int32))), .val (.int r1), .val (.int r2), .val (.int r3), .val (.int r4), .val (.ref a5), .val (.ref a25), .val (.int (0 : Int32))] [(.int (1 : Int32))])) (fun t kt => XS.iconst X73.here hx rfl (hb hby at_253) kt) ?_
          refine Go.st (S' := T73.setTop (mkF m 258 #[.val (.int p0), .val (.int p1), .val (.int p2), .val (.int p3), .val (.int p4), .val (.int (p0 &&& (3 : Int32))), .val (.int ((XT.ushr p0 (2 : Int32)) &&& (3 : Int32))), .val (.int ((XT.ushr p0 (4 : Int32)) &&& (3 : Int32))), .val (.int ((XT.ushr p0 (6 : Int32)) &&& (3 : Int32))), .val (.int (p1 &&& (255 : Int32))), .val (.int ((XT.ushr p1 (8 : Int32)) &&& (255 : Int32))), .val (.int ((XT.ushr p1 (16 : Int32)) &&& (255 : Int32))), .val (.int ((XT.ushr p1 (24 : Int32)) &&& (255 : Int32))), .val (.int r1), .val (.int r2), .val (.int r3), .val (.int r4), .val (.ref a5), .val (.ref a25), .val (.int (0 : Int32))] [(.int (1 : Int32))])) (fun t kt => XS.goto X73.here hx rfl (pc0 := 254) (pc' := 258) rfl (hb hby at_254) (by decide) (by decide) kt) ?_
          exact retw_b X73 hZ hEL e73 C49 hS hk hx hlk hret (hb hby at_258) (by decide) (by decide) (⟨rfl, N73⟩)
        · refine Go.st (S' := T63.setTop (mkF m 234 #[.val (.int p0), .val (.int p1), .val (.int p2), .val (.int p3), .val (.int p4), .val (.int (p0 &&& (3 : Int32))), .val (.int ((XT.ushr p0 (2 : Int32)) &&& (3 : Int32))), .val (.int ((XT.ushr p0 (4 : Int32)) &&& (3 : Int32))), .val (.int ((XT.ushr p0 (6 : Int32)) &&& (3 : Int32))), .val (.int (p1 &&& (255 : Int32))), .val (.int ((XT.ushr p1 (8 : Int32)) &&& (255 : Int32))), .val (.int ((XT.ushr p1 (16 : Int32)) &&& (255 : Int32))), .val (.int ((XT.ushr p1 (24 : Int32)) &&& (255 : Int32))), .val (.int r1), .val (.int r2), .val (.int r3), .val (.int r4), .val (.ref a5), .val (.ref a25), .unset] [])) (fun t kt => XS.ifNo X63.here hx rfl (hb hby at_231) rfl (XT.i0_eq_f hc231_64) kt) ?_
          refine Go.st (S' := T63.setTop (mkF m 235 #[.val (.int p0), .val (.int p1), .val (.int p2), .val (.int p3), .val (.int p4), .val (.int (p0 &&& (3 : Int32))), .val (.int ((XT.ushr p0 (2 : Int32)) &&& (3 : Int32))), .val (.int ((XT.ushr p0 (4 : Int32)) &&& (3 : Int32))), .val (.int ((XT.ushr p0 (6 : Int32)) &&& (3 : Int32))), .val (.int (p1 &&& (255 : Int32))), .val (.int ((XT.ushr p1 (8 : Int32)) &&& (255 : Int32))), .val (.int ((XT.ushr p1 (16 : Int32)) &&& (255 : Int32))), .val (.int ((XT.ushr p1 (24 : Int32)) &&& (255 : Int32))), .val (.int r1), .val (.int r2), .val (.int r3), .val (.int r4), .val (.ref a5), .val (.ref a25), .unset] [(.int (1 : Int32))])) (fun t kt => XS.iconst X63.here hx rfl (hb hby at_234) kt) ?_
          refine Go.st (S' := T63.setTop (mkF m 239 #[.val (.int p0), .val (.int p1), .val (.int p2), .val (.int p3), .val (.int p4), .val (.int (p0 &&& (3 : Int32))), .val (.int ((XT.ushr p0 (2 : Int32)) &&& (3 : Int32))), .val (.int ((XT.ushr p0 (4 : Int32)) &&& (3 : Int32))), .val (.int ((XT.ushr p0 (6 : Int32)) &&& (3 : Int32))), .val (.int (p1 &&& (255 : Int32))), .val (.int ((XT.ushr p1 (8 : Int32)) &&& (255 : Int32))), .val (.int ((XT.ushr p1 (16 : Int32)) &&& (255 : Int32))), .val (.int ((XT.ushr p1 (24 : Int32)) &&& (255 : Int32))), .val (.int r1), .val (.int r2), .val (.int r3), .val (.int r4), .val (.ref a5), .val (.ref a25), .unset] [(.int (1 : Int32))])) (fun t kt => XS.goto X63.here hx rfl (pc0 := 235) (pc' := 239) rfl (hb hby at_235) (by decide) (by decide) kt) ?_
          refine Go.st (S' := T63.setTop (mkF m 241 #[.val (.int p0), .val (.int p1), .val (.int p2), .val (.int p3), .val (.int p4), .val (.int (p0 &&& (3 : Int32))), .val (.int ((XT.ushr p0 (2 : Int32)) &&& (3 : Int32))), .val (.int ((XT.ushr p0 (4 : Int32)) &&& (3 : Int32))), .val (.int ((XT.ushr p0 (6 : Int32)) &&& (3 : Int32))), .val (.int (p1 &&& (255 : Int32))), .val (.int ((XT.ushr p1 (8 : Int32)) &&& (255 : Int32))), .val (.int ((XT.ushr p1 (16 : Int32)) &&& (255 : Int32))), .val (.int ((XT.ushr p1 (24 : Int32)) &&& (255 : Int32))), .val (.int r1), .val (.int r2), .val (.int r3), .val (.int r4), .val (.ref a5), .val (.ref a25), .val (.int (1 : Int32))] [])) (fun t kt => XS.istore X63.here hx rfl (hb hby at_239) rfl rfl kt) ?_
          refine Go.st (S' := T63.setTop (mkF m 243 #[.val (.int p0), .val (.int p1), .val (.int p2), .val (.int p3), .val (.int p4), .val (.int (p0 &&& (3 : Int32))), .val (.int ((XT.ushr p0 (2 : Int32)) &&& (3 : Int32))), .val (.int ((XT.ushr p0 (4 : Int32)) &&& (3 : Int32))), .val (.int ((XT.ushr p0 (6 : Int32)) &&& (3 : Int32))), .val (.int (p1 &&& (255 : Int32))), .val (.int ((XT.ushr p1 (8 : Int32)) &&& (255 : Int32))), .val (.int ((XT.ushr p1 (16 : Int32)) &&& (255 : Int32))), .val (.int ((XT.ushr p1 (24 : Int32)) &&& (255 : Int32))), .val (.int r1), .val (.int r2), .val (.int r3), .val (.int r4), .val (.ref a5), .val (.ref a25), .val (.int (1 : Int32))] [(.ref a5)])) (fun t kt => XS.aload X63.here hx rfl (hb hby at_241) rfl rfl kt) ?_
          refine Go.st (S' := T63.setTop (mkF m 245 #[.val (.int p0), .val (.int p1), .val (.int p2), .val (.int p3), .val (.int p4), .val (.int (p0 &&& (3 : Int32))), .val (.int ((XT.ushr p0 (2 : Int32)) &&& (3 : Int32))), .val (.int ((XT.ushr p0 (4 : Int32)) &&& (3 : Int32))), .val (.int ((XT.ushr p0 (6 : Int32)) &&& (3 : Int32))), .val (.int (p1 &&& (255 : Int32))), .val (.int ((XT.ushr p1 (8 : Int32)) &&& (255 : Int32))), .val (.int ((XT.ushr p1 (16 : Int32)) &&& (255 : Int32))), .val (.int ((XT.ushr p1 (24 : Int32)) &&& (255 : Int32))), .val (.int r1), .val (.int r2), .val (.int r3), .val (.int r4), .val (.ref a5), .val (.ref a25), .val (.int (1 : Int32))] [(.ref a25), (.ref a5)])) (fun t kt => XS.aload X63.here hx rfl (hb hby at_243) rfl rfl kt) ?_
          have f74 := (own_sta_keep (own_sta_keep f37 K38' all0) K49' (allS (own_obj_exa f43) all0))
          have f75 := (f50.keep K49')
          have f76 := ((((f23_1.ext E25).keep K33' nin0).keep K38' nin0).keep K49' (ninS (Nat.ne_of_lt (by rw [g25]; exact f23_0.lt)) nin0))
          have f77 := ((((f23_2.ext E25).keep K33' nin0).keep K38' nin0).keep K49' (ninS (Nat.ne_of_lt (by rw [g25]; exact f23_0.lt)) nin0))
          have f78 := (StrIs.keep (StrIs.keep f41 K38' all0) K49' (allS (own_nostr f43 (by decide) (hw _ (List.mem_of_getElem? (i := 5) rfl))) all0))
          have f79 := (StrIs.keep (StrIs.keep f42 K38' all0) K49' (allS (own_nostr f43 (by decide) (hw _ (List.mem_of_getElem? (i := 5) rfl))) all0))
          have f80 := (StrIs.keep (StrIs.keep f33_1 K38' all0) K49' (allS (own_nostr f43 (by decide) (hw _ (List.mem_of_getElem? (i := 5) rfl))) all0))
          have f81 := (StrIs.keep f38_1 K49' (allS (own_nostr f43 (by decide) (hw _ (List.mem_of_getElem? (i := 5) rfl))) all0))
          refine Go.virt X63 hx hZ hown (hw _ (List.mem_of_getElem? (i := 40) rfl)) (hw _ (List.mem_of_getElem? (i := 41) rfl)) (notFace_of_selects (mvT (args := #[]) hZ (hw _ (List.mem_of_getElem? (i := 43) rfl)))) (hw _ (List.mem_of_getElem? (i := 43) rfl)) (hw _ (List.mem_of_getElem? (i := 42) rfl)) (hw _ (List.mem_of_getElem? (i := 44) rfl)) (hw _ (List.mem_of_getElem? (i := 6) rfl)) (by decide) (b := a5) (argsL := [(.ref a25)]) (rest := []) (rmAE l Z a0 hw a5 a25 u13 u15 u33 u38 (own_co (p0 &&& (3 : Int32)) (p1 &&& (255 : Int32)) ((XT.ushr p1 (8 : Int32)) &&& (255 : Int32))) (own_co ((XT.ushr p0 (2 : Int32)) &&& (3 : Int32)) ((XT.ushr p1 (16 : Int32)) &&& (255 : Int32)) ((XT.ushr p1 (24 : Int32)) &&& (255 : Int32))) (own_co ((XT.ushr p0 (4 : Int32)) &&& (3 : Int32)) r1 r2) (own_co ((XT.ushr p0 (6 : Int32)) &&& (3 : Int32)) r3 r4) T49.heap n0 Z49 cs f74 hcs f75 f76 f77 f49_1 f49_2 hu_u33 hu_u38 f78 f79 f80 f81 (StrIs.sep f35 f33_0) (StrIs.sep f42 f38_0)) e63 f75 rfl (by rw [hml]; rfl) pd__Lcom_example_sunder_sunder_query_Step__Z rfl (hb hby at_245) 0 (Nat.le_refl _) (by decide) (by decide) (by decide) (by decide) ?_
          intro v82 T82 L82 X82 hQ82
          obtain ⟨hv82, N82', e82⟩ := hQ82
          subst hv82
          have N82 := Fr.app N63 N82'
          show Go pP eE below _ (T82.setTop (mkF m 248 #[.val (.int p0), .val (.int p1), .val (.int p2), .val (.int p3), .val (.int p4), .val (.int (p0 &&& (3 : Int32))), .val (.int ((XT.ushr p0 (2 : Int32)) &&& (3 : Int32))), .val (.int ((XT.ushr p0 (4 : Int32)) &&& (3 : Int32))), .val (.int ((XT.ushr p0 (6 : Int32)) &&& (3 : Int32))), .val (.int (p1 &&& (255 : Int32))), .val (.int ((XT.ushr p1 (8 : Int32)) &&& (255 : Int32))), .val (.int ((XT.ushr p1 (16 : Int32)) &&& (255 : Int32))), .val (.int ((XT.ushr p1 (24 : Int32)) &&& (255 : Int32))), .val (.int r1), .val (.int r2), .val (.int r3), .val (.int r4), .val (.ref a5), .val (.ref a25), .val (.int (1 : Int32))] [(.int (own_adm (own_co (p0 &&& (3 : Int32)) (p1 &&& (255 : Int32)) ((XT.ushr p1 (8 : Int32)) &&& (255 : Int32))) (own_co ((XT.ushr p0 (2 : Int32)) &&& (3 : Int32)) ((XT.ushr p1 (16 : Int32)) &&& (255 : Int32)) ((XT.ushr p1 (24 : Int32)) &&& (255 : Int32))) (own_co ((XT.ushr p0 (4 : Int32)) &&& (3 : Int32)) r1 r2) (own_co ((XT.ushr p0 (6 : Int32)) &&& (3 : Int32)) r3 r4)))]))
          refine Go.st (S' := T82.setTop (mkF m 250 #[.val (.int p0), .val (.int p1), .val (.int p2), .val (.int p3), .val (.int p4), .val (.int (p0 &&& (3 : Int32))), .val (.int ((XT.ushr p0 (2 : Int32)) &&& (3 : Int32))), .val (.int ((XT.ushr p0 (4 : Int32)) &&& (3 : Int32))), .val (.int ((XT.ushr p0 (6 : Int32)) &&& (3 : Int32))), .val (.int (p1 &&& (255 : Int32))), .val (.int ((XT.ushr p1 (8 : Int32)) &&& (255 : Int32))), .val (.int ((XT.ushr p1 (16 : Int32)) &&& (255 : Int32))), .val (.int ((XT.ushr p1 (24 : Int32)) &&& (255 : Int32))), .val (.int r1), .val (.int r2), .val (.int r3), .val (.int r4), .val (.ref a5), .val (.ref a25), .val (.int (1 : Int32))] [(.int (1 : Int32)), (.int (own_adm (own_co (p0 &&& (3 : Int32)) (p1 &&& (255 : Int32)) ((XT.ushr p1 (8 : Int32)) &&& (255 : Int32))) (own_co ((XT.ushr p0 (2 : Int32)) &&& (3 : Int32)) ((XT.ushr p1 (16 : Int32)) &&& (255 : Int32)) ((XT.ushr p1 (24 : Int32)) &&& (255 : Int32))) (own_co ((XT.ushr p0 (4 : Int32)) &&& (3 : Int32)) r1 r2) (own_co ((XT.ushr p0 (6 : Int32)) &&& (3 : Int32)) r3 r4)))])) (fun t kt => XS.iload X82.here hx rfl (hb hby at_248) rfl kt) ?_
          refine Go.st (S' := T82.setTop (mkF m 253 #[.val (.int p0), .val (.int p1), .val (.int p2), .val (.int p3), .val (.int p4), .val (.int (p0 &&& (3 : Int32))), .val (.int ((XT.ushr p0 (2 : Int32)) &&& (3 : Int32))), .val (.int ((XT.ushr p0 (4 : Int32)) &&& (3 : Int32))), .val (.int ((XT.ushr p0 (6 : Int32)) &&& (3 : Int32))), .val (.int (p1 &&& (255 : Int32))), .val (.int ((XT.ushr p1 (8 : Int32)) &&& (255 : Int32))), .val (.int ((XT.ushr p1 (16 : Int32)) &&& (255 : Int32))), .val (.int ((XT.ushr p1 (24 : Int32)) &&& (255 : Int32))), .val (.int r1), .val (.int r2), .val (.int r3), .val (.int r4), .val (.ref a5), .val (.ref a25), .val (.int (1 : Int32))] [])) (fun t kt => XS.icmpNo X82.here hx rfl (hb hby at_250) rfl (XT.ii_ne_f ((own_fin (own_mask4 _) (own_mask4 _) (own_mask4 _) (own_mask4 _) ⟨_, rfl⟩ ⟨_, rfl⟩ lo1 lo2 ⟨_, rfl⟩ ⟨_, rfl⟩ lo3 lo4).trans (by simp [hc213_53, hc231_64]))) kt) ?_
          refine Go.st (S' := T82.setTop (mkF m 254 #[.val (.int p0), .val (.int p1), .val (.int p2), .val (.int p3), .val (.int p4), .val (.int (p0 &&& (3 : Int32))), .val (.int ((XT.ushr p0 (2 : Int32)) &&& (3 : Int32))), .val (.int ((XT.ushr p0 (4 : Int32)) &&& (3 : Int32))), .val (.int ((XT.ushr p0 (6 : Int32)) &&& (3 : Int32))), .val (.int (p1 &&& (255 : Int32))), .val (.int ((XT.ushr p1 (8 : Int32)) &&& (255 : Int32))), .val (.int ((XT.ushr p1 (16 : Int32)) &&& (255 : Int32))), .val (.int ((XT.ushr p1 (24 : Int32)) &&& (255 : Int32))), .val (.int r1), .val (.int r2), .val (.int r3), .val (.int r4), .val (.ref a5), .val (.ref a25), .val (.int (1 : Int32))] [(.int (1 : Int32))])) (fun t kt => XS.iconst X82.here hx rfl (hb hby at_253) kt) ?_
          refine Go.st (S' := T82.setTop (mkF m 258 #[.val (.int p0), .val (.int p1), .val (.int p2), .val (.int p3), .val (.int p4), .val (.int (p0 &&& (3 : Int32))), .val (.int ((XT.ushr p0 (2 : Int32)) &&& (3 : Int32))), .val (.int ((XT.ushr p0 (4 : Int32)) &&& (3 : Int32))), .val (.int ((XT.ushr p0 (6 : Int32)) &&& (3 : Int32))), .val (.int (p1 &&& (255 : Int32))), .val (.int ((XT.ushr p1 (8 : Int32)) &&& (255 : Int32))), .val (.int ((XT.ushr p1 (16 : Int32)) &&& (255 : Int32))), .val (.int ((XT.ushr p1 (24 : Int32)) &&& (255 : Int32))), .val (.int r1), .val (.int r2), .val (.int r3), .val (.int r4), .val (.ref a5), .val (.ref a25), .val (.int (1 : Int32))] [(.int (1 : Int32))])) (fun t kt => XS.goto X82.here hx rfl (pc0 := 254) (pc' := 258) rfl (hb hby at_254) (by decide) (by decide) kt) ?_
          exact retw_b X82 hZ hEL e82 C49 hS hk hx hlk hret (hb hby at_258) (by decide) (by decide) (⟨rfl, N82⟩)
    · refine Go.st (S' := T25.setTop (mkF m 162 #[.val (.int p0), .val (.int p1), .val (.int p2), .val (.int p3), .val (.int p4), .val (.int (p0 &&& (3 : Int32))), .val (.int ((XT.ushr p0 (2 : Int32)) &&& (3 : Int32))), .val (.int ((XT.ushr p0 (4 : Int32)) &&& (3 : Int32))), .val (.int ((XT.ushr p0 (6 : Int32)) &&& (3 : Int32))), .val (.int (p1 &&& (255 : Int32))), .val (.int ((XT.ushr p1 (8 : Int32)) &&& (255 : Int32))), .val (.int ((XT.ushr p1 (16 : Int32)) &&& (255 : Int32))), .val (.int ((XT.ushr p1 (24 : Int32)) &&& (255 : Int32))), .val (.int r1), .val (.int r2), .val (.int r3), .val (.int r4), .val (.ref a5), .unset, .unset] [(.ref a25), (.ref a25)])) (fun t kt => XS.ifNo X25.here hx rfl (hb hby at_159) rfl (XT.i0_eq_f hc159_26) kt) ?_
      refine Go.st (S' := T25.setTop (mkF m 163 #[.val (.int p0), .val (.int p1), .val (.int p2), .val (.int p3), .val (.int p4), .val (.int (p0 &&& (3 : Int32))), .val (.int ((XT.ushr p0 (2 : Int32)) &&& (3 : Int32))), .val (.int ((XT.ushr p0 (4 : Int32)) &&& (3 : Int32))), .val (.int ((XT.ushr p0 (6 : Int32)) &&& (3 : Int32))), .val (.int (p1 &&& (255 : Int32))), .val (.int ((XT.ushr p1 (8 : Int32)) &&& (255 : Int32))), .val (.int ((XT.ushr p1 (16 : Int32)) &&& (255 : Int32))), .val (.int ((XT.ushr p1 (24 : Int32)) &&& (255 : Int32))), .val (.int r1), .val (.int r2), .val (.int r3), .val (.int r4), .val (.ref a5), .unset, .unset] [(.int (1 : Int32)), (.ref a25), (.ref a25)])) (fun t kt => XS.iconst X25.here hx rfl (hb hby at_162) kt) ?_
      refine Go.st (S' := T25.setTop (mkF m 167 #[.val (.int p0), .val (.int p1), .val (.int p2), .val (.int p3), .val (.int p4), .val (.int (p0 &&& (3 : Int32))), .val (.int ((XT.ushr p0 (2 : Int32)) &&& (3 : Int32))), .val (.int ((XT.ushr p0 (4 : Int32)) &&& (3 : Int32))), .val (.int ((XT.ushr p0 (6 : Int32)) &&& (3 : Int32))), .val (.int (p1 &&& (255 : Int32))), .val (.int ((XT.ushr p1 (8 : Int32)) &&& (255 : Int32))), .val (.int ((XT.ushr p1 (16 : Int32)) &&& (255 : Int32))), .val (.int ((XT.ushr p1 (24 : Int32)) &&& (255 : Int32))), .val (.int r1), .val (.int r2), .val (.int r3), .val (.int r4), .val (.ref a5), .unset, .unset] [(.int (1 : Int32)), (.ref a25), (.ref a25)])) (fun t kt => XS.goto X25.here hx rfl (pc0 := 163) (pc' := 167) rfl (hb hby at_163) (by decide) (by decide) kt) ?_
      refine Go.st (S' := T25.setTop (mkF m 169 #[.val (.int p0), .val (.int p1), .val (.int p2), .val (.int p3), .val (.int p4), .val (.int (p0 &&& (3 : Int32))), .val (.int ((XT.ushr p0 (2 : Int32)) &&& (3 : Int32))), .val (.int ((XT.ushr p0 (4 : Int32)) &&& (3 : Int32))), .val (.int ((XT.ushr p0 (6 : Int32)) &&& (3 : Int32))), .val (.int (p1 &&& (255 : Int32))), .val (.int ((XT.ushr p1 (8 : Int32)) &&& (255 : Int32))), .val (.int ((XT.ushr p1 (16 : Int32)) &&& (255 : Int32))), .val (.int ((XT.ushr p1 (24 : Int32)) &&& (255 : Int32))), .val (.int r1), .val (.int r2), .val (.int r3), .val (.int r4), .val (.ref a5), .unset, .unset] [(.int p4), (.int (1 : Int32)), (.ref a25), (.ref a25)])) (fun t kt => XS.iload X25.here hx rfl (hb hby at_167) rfl kt) ?_
      refine Go.st (S' := T25.setTop (mkF m 170 #[.val (.int p0), .val (.int p1), .val (.int p2), .val (.int p3), .val (.int p4), .val (.int (p0 &&& (3 : Int32))), .val (.int ((XT.ushr p0 (2 : Int32)) &&& (3 : Int32))), .val (.int ((XT.ushr p0 (4 : Int32)) &&& (3 : Int32))), .val (.int ((XT.ushr p0 (6 : Int32)) &&& (3 : Int32))), .val (.int (p1 &&& (255 : Int32))), .val (.int ((XT.ushr p1 (8 : Int32)) &&& (255 : Int32))), .val (.int ((XT.ushr p1 (16 : Int32)) &&& (255 : Int32))), .val (.int ((XT.ushr p1 (24 : Int32)) &&& (255 : Int32))), .val (.int r1), .val (.int r2), .val (.int r3), .val (.int r4), .val (.ref a5), .unset, .unset] [(.int (2 : Int32)), (.int p4), (.int (1 : Int32)), (.ref a25), (.ref a25)])) (fun t kt => XS.iconst X25.here hx rfl (hb hby at_169) kt) ?_
      refine Go.st (S' := T25.setTop (mkF m 171 #[.val (.int p0), .val (.int p1), .val (.int p2), .val (.int p3), .val (.int p4), .val (.int (p0 &&& (3 : Int32))), .val (.int ((XT.ushr p0 (2 : Int32)) &&& (3 : Int32))), .val (.int ((XT.ushr p0 (4 : Int32)) &&& (3 : Int32))), .val (.int ((XT.ushr p0 (6 : Int32)) &&& (3 : Int32))), .val (.int (p1 &&& (255 : Int32))), .val (.int ((XT.ushr p1 (8 : Int32)) &&& (255 : Int32))), .val (.int ((XT.ushr p1 (16 : Int32)) &&& (255 : Int32))), .val (.int ((XT.ushr p1 (24 : Int32)) &&& (255 : Int32))), .val (.int r1), .val (.int r2), .val (.int r3), .val (.int r4), .val (.ref a5), .unset, .unset] [(.int (XT.ushr p4 (2 : Int32))), (.int (1 : Int32)), (.ref a25), (.ref a25)])) (fun t kt => XT.iushr X25.here hx rfl (hb hby at_170) rfl kt) ?_
      have f83 := ((own_sta_keep (own_sta_keep (own_sta_keep f7 K13' all0) K15' all0) K23' (allS (own_obj_exa f17) all0)).ext E25)
      have f84 := ((own_sta_keep (own_sta_keep (own_sta_keep f8 K13' all0) K15' all0) K23' (allS (own_obj_exa f17) all0)).ext E25)
      have f85 := ((own_sta_keep (own_sta_keep (own_sta_keep f9 K13' all0) K15' all0) K23' (allS (own_obj_exa f17) all0)).ext E25)
      have f86 := ((own_sta_keep (own_sta_keep (own_sta_keep f10 K13' all0) K15' all0) K23' (allS (own_obj_exa f17) all0)).ext E25)
      refine Go.stat X25 hx hZ hown (hw _ (List.mem_of_getElem? (i := 7) rfl)) (hw _ (List.mem_of_getElem? (i := 8) rfl)) (hw _ (List.mem_of_getElem? (i := 2) rfl)) (hw _ (List.mem_of_getElem? (i := 9) rfl)) (by decide) (argsL := [(.int (XT.ushr p4 (2 : Int32)))]) (rest := [(.int (1 : Int32)), (.ref a25), (.ref a25)]) (rmKN l Z a0 hw (XT.ushr p4 (2 : Int32)) h25 n0 Z25 k_ELEMENT k_ATTRIBUTE k_TEXT k_SELF f83 f84 f85 f86) e25 rfl (by rw [hml]; rfl) pd__I_Lcom_example_sunder_sunder_query_Step_Kind_ rfl (hb hby at_171) 3 (Nat.le_refl _) (by decide) (by decide) (by decide) (by decide) ?_
      intro v87 T87 L87 X87 hQ87
      obtain ⟨u87, hv87, N87', e87, hu87⟩ := hQ87
      subst hv87
      have N87 := Fr.app N23 N87'
      show Go pP eE below _ (T87.setTop (mkF m 174 #[.val (.int p0), .val (.int p1), .val (.int p2), .val (.int p3), .val (.int p4), .val (.int (p0 &&& (3 : Int32))), .val (.int ((XT.ushr p0 (2 : Int32)) &&& (3 : Int32))), .val (.int ((XT.ushr p0 (4 : Int32)) &&& (3 : Int32))), .val (.int ((XT.ushr p0 (6 : Int32)) &&& (3 : Int32))), .val (.int (p1 &&& (255 : Int32))), .val (.int ((XT.ushr p1 (8 : Int32)) &&& (255 : Int32))), .val (.int ((XT.ushr p1 (16 : Int32)) &&& (255 : Int32))), .val (.int ((XT.ushr p1 (24 : Int32)) &&& (255 : Int32))), .val (.int r1), .val (.int r2), .val (.int r3), .val (.int r4), .val (.ref a5), .unset, .unset] [u87, (.int (1 : Int32)), (.ref a25), (.ref a25)]))
      refine Go.st (S' := T87.setTop (mkF m 176 #[.val (.int p0), .val (.int p1), .val (.int p2), .val (.int p3), .val (.int p4), .val (.int (p0 &&& (3 : Int32))), .val (.int ((XT.ushr p0 (2 : Int32)) &&& (3 : Int32))), .val (.int ((XT.ushr p0 (4 : Int32)) &&& (3 : Int32))), .val (.int ((XT.ushr p0 (6 : Int32)) &&& (3 : Int32))), .val (.int (p1 &&& (255 : Int32))), .val (.int ((XT.ushr p1 (8 : Int32)) &&& (255 : Int32))), .val (.int ((XT.ushr p1 (16 : Int32)) &&& (255 : Int32))), .val (.int ((XT.ushr p1 (24 : Int32)) &&& (255 : Int32))), .val (.int r1), .val (.int r2), .val (.int r3), .val (.int r4), .val (.ref a5), .unset, .unset] [(.int ((XT.ushr p0 (4 : Int32)) &&& (3 : Int32))), u87, (.int (1 : Int32)), (.ref a25), (.ref a25)])) (fun t kt => XS.iload X87.here hx rfl (hb hby at_174) rfl kt) ?_
      refine Go.st (S' := T87.setTop (mkF m 178 #[.val (.int p0), .val (.int p1), .val (.int p2), .val (.int p3), .val (.int p4), .val (.int (p0 &&& (3 : Int32))), .val (.int ((XT.ushr p0 (2 : Int32)) &&& (3 : Int32))), .val (.int ((XT.ushr p0 (4 : Int32)) &&& (3 : Int32))), .val (.int ((XT.ushr p0 (6 : Int32)) &&& (3 : Int32))), .val (.int (p1 &&& (255 : Int32))), .val (.int ((XT.ushr p1 (8 : Int32)) &&& (255 : Int32))), .val (.int ((XT.ushr p1 (16 : Int32)) &&& (255 : Int32))), .val (.int ((XT.ushr p1 (24 : Int32)) &&& (255 : Int32))), .val (.int r1), .val (.int r2), .val (.int r3), .val (.int r4), .val (.ref a5), .unset, .unset] [(.int r1), (.int ((XT.ushr p0 (4 : Int32)) &&& (3 : Int32))), u87, (.int (1 : Int32)), (.ref a25), (.ref a25)])) (fun t kt => XS.iload X87.here hx rfl (hb hby at_176) rfl kt) ?_
      refine Go.st (S' := T87.setTop (mkF m 180 #[.val (.int p0), .val (.int p1), .val (.int p2), .val (.int p3), .val (.int p4), .val (.int (p0 &&& (3 : Int32))), .val (.int ((XT.ushr p0 (2 : Int32)) &&& (3 : Int32))), .val (.int ((XT.ushr p0 (4 : Int32)) &&& (3 : Int32))), .val (.int ((XT.ushr p0 (6 : Int32)) &&& (3 : Int32))), .val (.int (p1 &&& (255 : Int32))), .val (.int ((XT.ushr p1 (8 : Int32)) &&& (255 : Int32))), .val (.int ((XT.ushr p1 (16 : Int32)) &&& (255 : Int32))), .val (.int ((XT.ushr p1 (24 : Int32)) &&& (255 : Int32))), .val (.int r1), .val (.int r2), .val (.int r3), .val (.int r4), .val (.ref a5), .unset, .unset] [(.int r2), (.int r1), (.int ((XT.ushr p0 (4 : Int32)) &&& (3 : Int32))), u87, (.int (1 : Int32)), (.ref a25), (.ref a25)])) (fun t kt => XS.iload X87.here hx rfl (hb hby at_178) rfl kt) ?_
      have f88 := ((own_sta_keep (own_sta_keep f14 K15' all0) K23' (allS (own_obj_exa f17) all0)).ext E25)
      have f90 := (f23_0.ext E25)
      refine Go.statW X87 hx hZ hEL C25.1 hS hk hown (hw _ (List.mem_of_getElem? (i := 13) rfl)) (hw _ (List.mem_of_getElem? (i := 14) rfl)) (hw _ (List.mem_of_getElem? (i := 2) rfl)) (hw _ (List.mem_of_getElem? (i := 15) rfl)) (by decide) (argsL := [(.int ((XT.ushr p0 (4 : Int32)) &&& (3 : Int32))), (.int r1), (.int r2)]) (rest := [u87, (.int (1 : Int32)), (.ref a25), (.ref a25)]) (rmMK l Z a0 hw ((XT.ushr p0 (4 : Int32)) &&& (3 : Int32)) r1 r2 h25 n0 Z25 cs f88 hcs lo1 lo2) e87 rfl (by rw [hml]; rfl) pd__III_Ljava_lang_String_ rfl (hb hby at_180) 4 (by simp [own_cat_r, own_cat_i, own_cat_n, own_cat_j, own_cat_d, XT.cat1 hu87]) (by decide) (by decide) (by decide) (by decide) ?_
      intro v89 T89 L89 X89 hQ89 A89 hS
      have hk : T89.heap.size ≤ T89.heap.size := Nat.le_refl _
      have hZ := own_hZ hZ0 hS
      have hown := own_hown hown0 hS
      have f91 := ((StrIs.keep (StrIs.keep f13_1 K15' all0) K23' (allS (own_nostr f17 (by decide) (hw _ (List.mem_of_getElem? (i := 5) rfl))) all0)).ext E25)
      have f92 := ((StrIs.keep f15_1 K23' (allS (own_nostr f17 (by decide) (hw _ (List.mem_of_getElem? (i := 5) rfl))) all0)).ext E25)
      obtain ⟨u89, hv89, N89', K89', f89_0, f89_1⟩ := hQ89
      subst hv89
      have N89 := Fr.app N87 N89'
      have Z89 : n0 ≤ T89.heap.size := Nat.le_trans Z25 K89'.1
      have eh89 : T89.heap = T89.heap := rfl
      have C89 := CHr.trans C25 A89
      have hu_u89 := StrIs.isRef f89_1
      show Go pP eE below _ (T89.setTop (mkF m 183 #[.val (.int p0), .val (.int p1), .val (.int p2), .val (.int p3), .val (.int p4), .val (.int (p0 &&& (3 : Int32))), .val (.int ((XT.ushr p0 (2 : Int32)) &&& (3 : Int32))), .val (.int ((XT.ushr p0 (4 : Int32)) &&& (3 : Int32))), .val (.int ((XT.ushr p0 (6 : Int32)) &&& (3 : Int32))), .val (.int (p1 &&& (255 : Int32))), .val (.int ((XT.ushr p1 (8 : Int32)) &&& (255 : Int32))), .val (.int ((XT.ushr p1 (16 : Int32)) &&& (255 : Int32))), .val (.int ((XT.ushr p1 (24 : Int32)) &&& (255 : Int32))), .val (.int r1), .val (.int r2), .val (.int r3), .val (.int r4), .val (.ref a5), .unset, .unset] [u89, u87, (.int (1 : Int32)), (.ref a25), (.ref a25)]))
      refine Go.st (S' := T89.setTop (mkF m 185 #[.val (.int p0), .val (.int p1), .val (.int p2), .val (.int p3), .val (.int p4), .val (.int (p0 &&& (3 : Int32))), .val (.int ((XT.ushr p0 (2 : Int32)) &&& (3 : Int32))), .val (.int ((XT.ushr p0 (4 : Int32)) &&& (3 : Int32))), .val (.int ((XT.ushr p0 (6 : Int32)) &&& (3 : Int32))), .val (.int (p1 &&& (255 : Int32))), .val (.int ((XT.ushr p1 (8 : Int32)) &&& (255 : Int32))), .val (.int ((XT.ushr p1 (16 : Int32)) &&& (255 : Int32))), .val (.int ((XT.ushr p1 (24 : Int32)) &&& (255 : Int32))), .val (.int r1), .val (.int r2), .val (.int r3), .val (.int r4), .val (.ref a5), .unset, .unset] [(.int ((XT.ushr p0 (6 : Int32)) &&& (3 : Int32))), u89, u87, (.int (1 : Int32)), (.ref a25), (.ref a25)])) (fun t kt => XS.iload X89.here hx rfl (hb hby at_183) rfl kt) ?_
      refine Go.st (S' := T89.setTop (mkF m 187 #[.val (.int p0), .val (.int p1), .val (.int p2), .val (.int p3), .val (.int p4), .val (.int (p0 &&& (3 : Int32))), .val (.int ((XT.ushr p0 (2 : Int32)) &&& (3 : Int32))), .val (.int ((XT.ushr p0 (4 : Int32)) &&& (3 : Int32))), .val (.int ((XT.ushr p0 (6 : Int32)) &&& (3 : Int32))), .val (.int (p1 &&& (255 : Int32))), .val (.int ((XT.ushr p1 (8 : Int32)) &&& (255 : Int32))), .val (.int ((XT.ushr p1 (16 : Int32)) &&& (255 : Int32))), .val (.int ((XT.ushr p1 (24 : Int32)) &&& (255 : Int32))), .val (.int r1), .val (.int r2), .val (.int r3), .val (.int r4), .val (.ref a5), .unset, .unset] [(.int r3), (.int ((XT.ushr p0 (6 : Int32)) &&& (3 : Int32))), u89, u87, (.int (1 : Int32)), (.ref a25), (.ref a25)])) (fun t kt => XS.iload X89.here hx rfl (hb hby at_185) rfl kt) ?_
      refine Go.st (S' := T89.setTop (mkF m 189 #[.val (.int p0), .val (.int p1), .val (.int p2), .val (.int p3), .val (.int p4), .val (.int (p0 &&& (3 : Int32))), .val (.int ((XT.ushr p0 (2 : Int32)) &&& (3 : Int32))), .val (.int ((XT.ushr p0 (4 : Int32)) &&& (3 : Int32))), .val (.int ((XT.ushr p0 (6 : Int32)) &&& (3 : Int32))), .val (.int (p1 &&& (255 : Int32))), .val (.int ((XT.ushr p1 (8 : Int32)) &&& (255 : Int32))), .val (.int ((XT.ushr p1 (16 : Int32)) &&& (255 : Int32))), .val (.int ((XT.ushr p1 (24 : Int32)) &&& (255 : Int32))), .val (.int r1), .val (.int r2), .val (.int r3), .val (.int r4), .val (.ref a5), .unset, .unset] [(.int r4), (.int r3), (.int ((XT.ushr p0 (6 : Int32)) &&& (3 : Int32))), u89, u87, (.int (1 : Int32)), (.ref a25), (.ref a25)])) (fun t kt => XS.iload X89.here hx rfl (hb hby at_187) rfl kt) ?_
      have f93 := (own_sta_keep f88 K89' all0)
      have f95 := (f90.keep K89')
      have f96 := (A25.keep K89')
      refine Go.statW X89 hx hZ hEL C89.1 hS hk hown (hw _ (List.mem_of_getElem? (i := 13) rfl)) (hw _ (List.mem_of_getElem? (i := 14) rfl)) (hw _ (List.mem_of_getElem? (i := 2) rfl)) (hw _ (List.mem_of_getElem? (i := 15) rfl)) (by decide) (argsL := [(.int ((XT.ushr p0 (6 : Int32)) &&& (3 : Int32))), (.int r3), (.int r4)]) (rest := [u89, u87, (.int (1 : Int32)), (.ref a25), (.ref a25)]) (rmMK l Z a0 hw ((XT.ushr p0 (6 : Int32)) &&& (3 : Int32)) r3 r4 T89.heap n0 Z89 cs f93 hcs lo3 lo4) eh89 rfl (by rw [hml]; rfl) pd__III_Ljava_lang_String_ rfl (hb hby at_189) 5 (by simp [own_cat_r, own_cat_i, own_cat_n, own_cat_j, own_cat_d, XT.cat1 hu_u89, XT.cat1 hu87]) (by decide) (by decide) (by decide) (by decide) ?_
      intro v94 T94 L94 X94 hQ94 A94 hS
      have hk : T94.heap.size ≤ T94.heap.size := Nat.le_refl _
      have hZ := own_hZ hZ0 hS
      have hown := own_hown hown0 hS
      have f97 := (StrIs.keep f91 K89' all0)
      have f98 := (StrIs.keep f92 K89' all0)
      obtain ⟨u94, hv94, N94', K94', f94_0, f94_1⟩ := hQ94
      subst hv94
      have N94 := Fr.app N89 N94'
      have Z94 : n0 ≤ T94.heap.size := Nat.le_trans Z89 K94'.1
      have eh94 : T94.heap = T94.heap := rfl
      have C94 := CHr.trans C89 A94
      have hu_u94 := StrIs.isRef f94_1
      show Go pP eE below _ (T94.setTop (mkF m 192 #[.val (.int p0), .val (.int p1), .val (.int p2), .val (.int p3), .val (.int p4), .val (.int (p0 &&& (3 : Int32))), .val (.int ((XT.ushr p0 (2 : Int32)) &&& (3 : Int32))), .val (.int ((XT.ushr p0 (4 : Int32)) &&& (3 : Int32))), .val (.int ((XT.ushr p0 (6 : Int32)) &&& (3 : Int32))), .val (.int (p1 &&& (255 : Int32))), .val (.int ((XT.ushr p1 (8 : Int32)) &&& (255 : Int32))), .val (.int ((XT.ushr p1 (16 : Int32)) &&& (255 : Int32))), .val (.int ((XT.ushr p1 (24 : Int32)) &&& (255 : Int32))), .val (.int r1), .val (.int r2), .val (.int r3), .val (.int r4), .val (.ref a5), .unset, .unset] [u94, u89, u87, (.int (1 : Int32)), (.ref a25), (.ref a25)]))
      refine Go.st (S' := T94.setTop (mkF m 193 #[.val (.int p0), .val (.int p1), .val (.int p2), .val (.int p3), .val (.int p4), .val (.int (p0 &&& (3 : Int32))), .val (.int ((XT.ushr p0 (2 : Int32)) &&& (3 : Int32))), .val (.int ((XT.ushr p0 (4 : Int32)) &&& (3 : Int32))), .val (.int ((XT.ushr p0 (6 : Int32)) &&& (3 : Int32))), .val (.int (p1 &&& (255 : Int32))), .val (.int ((XT.ushr p1 (8 : Int32)) &&& (255 : Int32))), .val (.int ((XT.ushr p1 (16 : Int32)) &&& (255 : Int32))), .val (.int ((XT.ushr p1 (24 : Int32)) &&& (255 : Int32))), .val (.int r1), .val (.int r2), .val (.int r3), .val (.int r4), .val (.ref a5), .unset, .unset] [.null, u94, u89, u87, (.int (1 : Int32)), (.ref a25), (.ref a25)])) (fun t kt => XS.aconstNull X94.here hx rfl (hb hby at_192) kt) ?_
      have f99 := (f96.keep K94')
      have f100 := ((F25_descendants.keep K89' nin0).keep K94' nin0)
      have f101 := ((F25_kind.keep K89' nin0).keep K94' nin0)
      have f102 := ((F25_namespaceUri.keep K89' nin0).keep K94' nin0)
      have f103 := ((F25_localName.keep K89' nin0).keep K94' nin0)
      have f104 := ((F25_predicates.keep K89' nin0).keep K94' nin0)
      refine Go.init X94 hx hZ rfl hown (hw _ (List.mem_of_getElem? (i := 16) rfl)) (hw _ (List.mem_of_getElem? (i := 17) rfl)) (hw _ (List.mem_of_getElem? (i := 18) rfl)) (hw _ (List.mem_of_getElem? (i := 6) rfl)) (by decide) (b := a25) (argsL := [(.int (1 : Int32)), u87, u89, u94, .null]) (rest := [(.ref a25)]) (rmSI1 l Z a0 hw a25 u87 u89 u94 hu87 hu_u89 hu_u94 T94.heap n0 Z94 f99 (Nat.le_trans Z23 (Nat.le_of_eq g25.symm)) f100 f101 f102 f103 f104) eh94 rfl (by rw [hml]; rfl) pd__ZLcom_example_sunder_sunder_query_Step_Kind_Ljava_lang_String_Ljava_lang_String_Ljava_util_List__V rfl (hb hby at_193) 1 (Nat.le_refl _) (by decide) (by decide) (by decide) (by decide) ?_
      intro v105 T105 L105 X105 hQ105
      have f106 := (f95.keep K94')
      have f107 := (CHr.safe A94 f96.lt (CHr.safe A89 A25.lt (Safe.ext E25 C23.1 S25)))
      obtain ⟨hv105, N105', K105', f105_0, f105_1, f105_2⟩ := hQ105
      subst hv105
      have N105 := Fr.app N94 N105'
      have Z105 : n0 ≤ T105.heap.size := Nat.le_trans Z94 K105'.1
      have eh105 : T105.heap = T105.heap := rfl
      have C105 := CHr.trans C94 (CHr.keep K105' (allS f107 all0) C94.1)
      have hk := Nat.le_trans hk K105'.1
      show Go pP eE below _ (T105.setTop (mkF m 196 #[.val (.int p0), .val (.int p1), .val (.int p2), .val (.int p3), .val (.int p4), .val (.int (p0 &&& (3 : Int32))), .val (.int ((XT.ushr p0 (2 : Int32)) &&& (3 : Int32))), .val (.int ((XT.ushr p0 (4 : Int32)) &&& (3 : Int32))), .val (.int ((XT.ushr p0 (6 : Int32)) &&& (3 : Int32))), .val (.int (p1 &&& (255 : Int32))), .val (.int ((XT.ushr p1 (8 : Int32)) &&& (255 : Int32))), .val (.int ((XT.ushr p1 (16 : Int32)) &&& (255 : Int32))), .val (.int ((XT.ushr p1 (24 : Int32)) &&& (255 : Int32))), .val (.int r1), .val (.int r2), .val (.int r3), .val (.int r4), .val (.ref a5), .unset, .unset] [(.ref a25)]))
      refine Go.st (S' := T105.setTop (mkF m 198 #[.val (.int p0), .val (.int p1), .val (.int p2), .val (.int p3), .val (.int p4), .val (.int (p0 &&& (3 : Int32))), .val (.int ((XT.ushr p0 (2 : Int32)) &&& (3 : Int32))), .val (.int ((XT.ushr p0 (4 : Int32)) &&& (3 : Int32))), .val (.int ((XT.ushr p0 (6 : Int32)) &&& (3 : Int32))), .val (.int (p1 &&& (255 : Int32))), .val (.int ((XT.ushr p1 (8 : Int32)) &&& (255 : Int32))), .val (.int ((XT.ushr p1 (16 : Int32)) &&& (255 : Int32))), .val (.int ((XT.ushr p1 (24 : Int32)) &&& (255 : Int32))), .val (.int r1), .val (.int r2), .val (.int r3), .val (.int r4), .val (.ref a5), .val (.ref a25), .unset] [])) (fun t kt => XS.astore X105.here hx rfl (hb hby at_196) rfl rfl rfl kt) ?_
      refine Go.st (S' := T105.setTop (mkF m 200 #[.val (.int p0), .val (.int p1), .val (.int p2), .val (.int p3), .val (.int p4), .val (.int (p0 &&& (3 : Int32))), .val (.int ((XT.ushr p0 (2 : Int32)) &&& (3 : Int32))), .val (.int ((XT.ushr p0 (4 : Int32)) &&& (3 : Int32))), .val (.int ((XT.ushr p0 (6 : Int32)) &&& (3 : Int32))), .val (.int (p1 &&& (255 : Int32))), .val (.int ((XT.ushr p1 (8 : Int32)) &&& (255 : Int32))), .val (.int ((XT.ushr p1 (16 : Int32)) &&& (255 : Int32))), .val (.int ((XT.ushr p1 (24 : Int32)) &&& (255 : Int32))), .val (.int r1), .val (.int r2), .val (.int r3), .val (.int r4), .val (.ref a5), .val (.ref a25), .unset] [(.int (p0 &&& (3 : Int32)))])) (fun t kt => XS.iload X105.here hx rfl (hb hby at_198) rfl kt) ?_
      refine Go.st (S' := T105.setTop (mkF m 202 #[.val (.int p0), .val (.int p1), .val (.int p2), .val (.int p3), .val (.int p4), .val (.int (p0 &&& (3 : Int32))), .val (.int ((XT.ushr p0 (2 : Int32)) &&& (3 : Int32))), .val (.int ((XT.ushr p0 (4 : Int32)) &&& (3 : Int32))), .val (.int ((XT.ushr p0 (6 : Int32)) &&& (3 : Int32))), .val (.int (p1 &&& (255 : Int32))), .val (.int ((XT.ushr p1 (8 : Int32)) &&& (255 : Int32))), .val (.int ((XT.ushr p1 (16 : Int32)) &&& (255 : Int32))), .val (.int ((XT.ushr p1 (24 : Int32)) &&& (255 : Int32))), .val (.int r1), .val (.int r2), .val (.int r3), .val (.int r4), .val (.ref a5), .val (.ref a25), .unset] [(.int (p1 &&& (255 : Int32))), (.int (p0 &&& (3 : Int32)))])) (fun t kt => XS.iload X105.here hx rfl (hb hby at_200) rfl kt) ?_
      refine Go.st (S' := T105.setTop (mkF m 204 #[.val (.int p0), .val (.int p1), .val (.int p2), .val (.int p3), .val (.int p4), .val (.int (p0 &&& (3 : Int32))), .val (.int ((XT.ushr p0 (2 : Int32)) &&& (3 : Int32))), .val (.int ((XT.ushr p0 (4 : Int32)) &&& (3 : Int32))), .val (.int ((XT.ushr p0 (6 : Int32)) &&& (3 : Int32))), .val (.int (p1 &&& (255 : Int32))), .val (.int ((XT.ushr p1 (8 : Int32)) &&& (255 : Int32))), .val (.int ((XT.ushr p1 (16 : Int32)) &&& (255 : Int32))), .val (.int ((XT.ushr p1 (24 : Int32)) &&& (255 : Int32))), .val (.int r1), .val (.int r2), .val (.int r3), .val (.int r4), .val (.ref a5), .val (.ref a25), .unset] [(.int ((XT.ushr p1 (8 : Int32)) &&& (255 : Int32))), (.int (p1 &&& (255 : Int32))), (.int (p0 &&& (3 : Int32)))])) (fun t kt => XS.iload X105.here hx rfl (hb hby at_202) rfl kt) ?_
      refine Go.st (S' := T105.setTop (mkF m 206 #[.val (.int p0), .val (.int p1), .val (.int p2), .val (.int p3), .val (.int p4), .val (.int (p0 &&& (3 : Int32))), .val (.int ((XT.ushr p0 (2 : Int32)) &&& (3 : Int32))), .val (.int ((XT.ushr p0 (4 : Int32)) &&& (3 : Int32))), .val (.int ((XT.ushr p0 (6 : Int32)) &&& (3 : Int32))), .val (.int (p1 &&& (255 : Int32))), .val (.int ((XT.ushr p1 (8 : Int32)) &&& (255 : Int32))), .val (.int ((XT.ushr p1 (16 : Int32)) &&& (255 : Int32))), .val (.int ((XT.ushr p1 (24 : Int32)) &&& (255 : Int32))), .val (.int r1), .val (.int r2), .val (.int r3), .val (.int r4), .val (.ref a5), .val (.ref a25), .unset] [(.int ((XT.ushr p0 (4 : Int32)) &&& (3 : Int32))), (.int ((XT.ushr p1 (8 : Int32)) &&& (255 : Int32))), (.int (p1 &&& (255 : Int32))), (.int (p0 &&& (3 : Int32)))])) (fun t kt => XS.iload X105.here hx rfl (hb hby at_204) rfl kt) ?_
      refine Go.st (S' := T105.setTop (mkF m 208 #[.val (.int p0), .val (.int p1), .val (.int p2), .val (.int p3), .val (.int p4), .val (.int (p0 &&& (3 : Int32))), .val (.int ((XT.ushr p0 (2 : Int32)) &&& (3 : Int32))), .val (.int ((XT.ushr p0 (4 : Int32)) &&& (3 : Int32))), .val (.int ((XT.ushr p0 (6 : Int32)) &&& (3 : Int32))), .val (.int (p1 &&& (255 : Int32))), .val (.int ((XT.ushr p1 (8 : Int32)) &&& (255 : Int32))), .val (.int ((XT.ushr p1 (16 : Int32)) &&& (255 : Int32))), .val (.int ((XT.ushr p1 (24 : Int32)) &&& (255 : Int32))), .val (.int r1), .val (.int r2), .val (.int r3), .val (.int r4), .val (.ref a5), .val (.ref a25), .unset] [(.int r1), (.int ((XT.ushr p0 (4 : Int32)) &&& (3 : Int32))), (.int ((XT.ushr p1 (8 : Int32)) &&& (255 : Int32))), (.int (p1 &&& (255 : Int32))), (.int (p0 &&& (3 : Int32)))])) (fun t kt => XS.iload X105.here hx rfl (hb hby at_206) rfl kt) ?_
      refine Go.st (S' := T105.setTop (mkF m 210 #[.val (.int p0), .val (.int p1), .val (.int p2), .val (.int p3), .val (.int p4), .val (.int (p0 &&& (3 : Int32))), .val (.int ((XT.ushr p0 (2 : Int32)) &&& (3 : Int32))), .val (.int ((XT.ushr p0 (4 : Int32)) &&& (3 : Int32))), .val (.int ((XT.ushr p0 (6 : Int32)) &&& (3 : Int32))), .val (.int (p1 &&& (255 : Int32))), .val (.int ((XT.ushr p1 (8 : Int32)) &&& (255 : Int32))), .val (.int ((XT.ushr p1 (16 : Int32)) &&& (255 : Int32))), .val (.int ((XT.ushr p1 (24 : Int32)) &&& (255 : Int32))), .val (.int r1), .val (.int r2), .val (.int r3), .val (.int r4), .val (.ref a5), .val (.ref a25), .unset] [(.int r2), (.int r1), (.int ((XT.ushr p0 (4 : Int32)) &&& (3 : Int32))), (.int ((XT.ushr p1 (8 : Int32)) &&& (255 : Int32))), (.int (p1 &&& (255 : Int32))), (.int (p0 &&& (3 : Int32)))])) (fun t kt => XS.iload X105.here hx rfl (hb hby at_208) rfl kt) ?_
      refine Go.stat X105 hx hZ hown (hw _ (List.mem_of_getElem? (i := 37) rfl)) (hw _ (List.mem_of_getElem? (i := 38) rfl)) (hw _ (List.mem_of_getElem? (i := 2) rfl)) (hw _ (List.mem_of_getElem? (i := 39) rfl)) (by decide) (argsL := [(.int (p0 &&& (3 : Int32))), (.int (p1 &&& (255 : Int32))), (.int ((XT.ushr p1 (8 : Int32)) &&& (255 : Int32))), (.int ((XT.ushr p0 (4 : Int32)) &&& (3 : Int32))), (.int r1), (.int r2)]) (rest := []) (rmCV l Z a0 hw (p0 &&& (3 : Int32)) (p1 &&& (255 : Int32)) ((XT.ushr p1 (8 : Int32)) &&& (255 : Int32)) ((XT.ushr p0 (4 : Int32)) &&& (3 : Int32)) r1 r2 T105.heap n0 Z105) eh105 rfl (by rw [hml]; rfl) pd__IIIIII_Z rfl (hb hby at_210) 0 (Nat.le_refl _) (by decide) (by decide) (by decide) (by decide) ?_
      intro v108 T108 L108 X108 hQ108
      obtain ⟨hv108, N108', e108⟩ := hQ108
      subst hv108
      have N108 := Fr.app N105 N108'
      show Go pP eE below _ (T108.setTop (mkF m 213 #[.val (.int p0), .val (.int p1), .val (.int p2), .val (.int p3), .val (.int p4), .val (.int (p0 &&& (3 : Int32))), .val (.int ((XT.ushr p0 (2 : Int32)) &&& (3 : Int32))), .val (.int ((XT.ushr p0 (4 : Int32)) &&& (3 : Int32))), .val (.int ((XT.ushr p0 (6 : Int32)) &&& (3 : Int32))), .val (.int (p1 &&& (255 : Int32))), .val (.int ((XT.ushr p1 (8 : Int32)) &&& (255 : Int32))), .val (.int ((XT.ushr p1 (16 : Int32)) &&& (255 : Int32))), .val (.int ((XT.ushr p1 (24 : Int32)) &&& (255 : Int32))), .val (.int r1), .val (.int r2), .val (.int r3), .val (.int r4), .val (.ref a5), .val (.ref a25), .unset] [(.int (own_cov (p0 &&& (3 : Int32)) (p1 &&& (255 : Int32)) ((XT.ushr p1 (8 : Int32)) &&& (255 : Int32)) ((XT.ushr p0 (4 : Int32)) &&& (3 : Int32)) r1 r2))]))
      by_cases hc213_109 : (own_cov (p0 &&& (3 : Int32)) (p1 &&& (255 : Int32)) ((XT.ushr p1 (8 : Int32)) &&& (255 : Int32)) ((XT.ushr p0 (4 : Int32)) &&& (3 : Int32)) r1 r2) = 0
      · refine Go.st (S' := T108.setTop (mkF m 238 #[.val (.int p0), .val (.int p1), .val (.int p2), .val (.int p3), .val (.int p4), .val (.int (p0 &&& (3 : Int32))), .val (.int ((XT.ushr p0 (2 : Int32)) &&& (3 : Int32))), .val (.int ((XT.ushr p0 (4 : Int32)) &&& (3 : Int32))), .val (.int ((XT.ushr p0 (6 : Int32)) &&& (3 : Int32))), .val (.int (p1 &&& (255 : Int32))), .val (.int ((XT.ushr p1 (8 : Int32)) &&& (255 : Int32))), .val (.int ((XT.ushr p1 (16 : Int32)) &&& (255 : Int32))), .val (.int ((XT.ushr p1 (24 : Int32)) &&& (255 : Int32))), .val (.int r1), .val (.int r2), .val (.int r3), .val (.int r4), .val (.ref a5), .val (.ref a25), .unset] [])) (fun t kt => XS.ifYes X108.here hx rfl (pc0 := 213) (pc' := 238) rfl (hb hby at_213) rfl (XT.i0_eq_t hc213_109) (by decide) (by decide) kt) ?_
        refine Go.st (S' := T108.setTop (mkF m 239 #[.val (.int p0), .val (.int p1), .val (.int p2), .val (.int p3), .val (.int p4), .val (.int (p0 &&& (3 : Int32))), .val (.int ((XT.ushr p0 (2 : Int32)) &&& (3 : Int32))), .val (.int ((XT.ushr p0 (4 : Int32)) &&& (3 : Int32))), .val (.int ((XT.ushr p0 (6 : Int32)) &&& (3 : Int32))), .val (.int (p1 &&& (255 : Int32))), .val (.int ((XT.ushr p1 (8 : Int32)) &&& (255 : Int32))), .val (.int ((XT.ushr p1 (16 : Int32)) &&& (255 : Int32))), .val (.int ((XT.ushr p1 (24 : Int32)) &&& (255 : Int32))), .val (.int r1), .val (.int r2), .val (.int r3), .val (.int r4), .val (.ref a5), .val (.ref a25), .unset] [(.int (0 : Int32))])) (fun t kt => XS.iconst X108.here hx rfl (hb hby at_238) kt) ?_
        refine Go.st (S' := T108.setTop (mkF m 241 #[.val (.int p0), .val (.int p1), .val (.int p2), .val (.int p3), .val (.int p4), .val (.int (p0 &&& (3 : Int32))), .val (.int ((XT.ushr p0 (2 : Int32)) &&& (3 : Int32))), .val (.int ((XT.ushr p0 (4 : Int32)) &&& (3 : Int32))), .val (.int ((XT.ushr p0 (6 : Int32)) &&& (3 : Int32))), .val (.int (p1 &&& (255 : Int32))), .val (.int ((XT.ushr p1 (8 : Int32)) &&& (255 : Int32))), .val (.int ((XT.ushr p1 (16 : Int32)) &&& (255 : Int32))), .val (.int ((XT.ushr p1 (24 : Int32)) &&& (255 : Int32))), .val (.int r1), .val (.int r2), .val (.int r3), .val (.int r4), .val (.ref a5), .val (.ref a25), .val (.int (0 : Int32))] [])) (fun t kt => XS.istore X108.here hx rfl (hb hby at_239) rfl rfl kt) ?_
        refine Go.st (S' := T108.setTop (mkF m 243 #[.val (.int p0), .val (.int p1), .val (.int p2), .val (.int p3), .val (.int p4), .val (.int (p0 &&& (3 : Int32))), .val (.int ((XT.ushr p0 (2 : Int32)) &&& (3 : Int32))), .val (.int ((XT.ushr p0 (4 : Int32)) &&& (3 : Int32))), .val (.int ((XT.ushr p0 (6 : Int32)) &&& (3 : Int32))), .val (.int (p1 &&& (255 : Int32))), .val (.int ((XT.ushr p1 (8 : Int32)) &&& (255 : Int32))), .val (.int ((XT.ushr p1 (16 : Int32)) &&& (255 : Int32))), .val (.int ((XT.ushr p1 (24 : Int32)) &&& (255 : Int32))), .val (.int r1), .val (.int r2), .val (.int r3), .val (.int r4), .val (.ref a5), .val (.ref a25), .val (.int (0 : Int32))] [(.ref a5)])) (fun t kt => XS.aload X108.here hx rfl (hb hby at_241) rfl rfl kt) ?_
        refine Go.st (S' := T108.setTop (mkF m 245 #[.val (.int p0), .val (.int p1), .val (.int p2), .val (.int p3), .val (.int p4), .val (.int (p0 &&& (3 : Int32))), .val (.int ((XT.ushr p0 (2 : Int32)) &&& (3 : Int32))), .val (.int ((XT.ushr p0 (4 : Int32)) &&& (3 : Int32))), .val (.int ((XT.ushr p0 (6 : Int32)) &&& (3 : Int32))), .val (.int (p1 &&& (255 : Int32))), .val (.int ((XT.ushr p1 (8 : Int32)) &&& (255 : Int32))), .val (.int ((XT.ushr p1 (16 : Int32)) &&& (255 : Int32))), .val (.int ((XT.ushr p1 (24 : Int32)) &&& (255 : Int32))), .val (.int r1), .val (.int r2), .val (.int r3), .val (.int r4), .val (.ref a5), .val (.ref a25), .val (.int (0 : Int32))] [(.ref a25), (.ref a5)])) (fun t kt => XS.aload X108.here hx rfl (hb hby at_243) rfl rfl kt) ?_
        have f110 := (own_sta_keep (own_sta_keep f93 K94' all0) K105' (allS (own_obj_exa f99) all0))
        have f111 := (f106.keep K105')
        have f112 := ((((f23_1.ext E25).keep K89' nin0).keep K94' nin0).keep K105' (ninS (Nat.ne_of_lt (by rw [g25]; exact f23_0.lt)) nin0))
        have f113 := ((((f23_2.ext E25).keep K89' nin0).keep K94' nin0).keep K105' (ninS (Nat.ne_of_lt (by rw [g25]; exact f23_0.lt)) nin0))
        have f114 := (StrIs.keep (StrIs.keep f97 K94' all0) K105' (allS (own_nostr f99 (by decide) (hw _ (List.mem_of_getElem? (i := 5) rfl))) all0))
        have f115 := (StrIs.keep (StrIs.keep f98 K94' all0) K105' (allS (own_nostr f99 (by decide) (hw _ (List.mem_of_getElem? (i := 5) rfl))) all0))
        have f116 := (StrIs.keep (StrIs.keep f89_1 K94' all0) K105' (allS (own_nostr f99 (by decide) (hw _ (List.mem_of_getElem? (i := 5) rfl))) all0))
        have f117 := (StrIs.keep f94_1 K105' (allS (own_nostr f99 (by decide) (hw _ (List.mem_of_getElem? (i := 5) rfl))) all0))
        refine Go.virt X108 hx hZ hown (hw _ (List.mem_of_getElem? (i := 40) rfl)) (hw _ (List.mem_of_getElem? (i := 41) rfl)) (notFace_of_selects (mvT (args := #[]) hZ (hw _ (List.mem_of_getElem? (i := 43) rfl)))) (hw _ (List.mem_of_getElem? (i := 43) rfl)) (hw _ (List.mem_of_getElem? (i := 42) rfl)) (hw _ (List.mem_of_getElem? (i := 44) rfl)) (hw _ (List.mem_of_getElem? (i := 6) rfl)) (by decide) (b := a5) (argsL := [(.ref a25)]) (rest := []) (rmAE l Z a0 hw a5 a25 u13 u15 u89 u94 (own_co (p0 &&& (3 : Int32)) (p1 &&& (255 : Int32)) ((XT.ushr p1 (8 : Int32)) &&& (255 : Int32))) (own_co ((XT.ushr p0 (2 : Int32)) &&& (3 : Int32)) ((XT.ushr p1 (16 : Int32)) &&& (255 : Int32)) ((XT.ushr p1 (24 : Int32)) &&& (255 : Int32))) (own_co ((XT.ushr p0 (4 : Int32)) &&& (3 : Int32)) r1 r2) (own_co ((XT.ushr p0 (6 : Int32)) &&& (3 : Int32)) r3 r4) T105.heap n0 Z105 cs f110 hcs f111 f112 f113 f105_1 f105_2 hu_u89 hu_u94 f114 f115 f116 f117 (StrIs.sep f91 f89_0) (StrIs.sep f98 f94_0)) e108 f111 rfl (by rw [hml]; rfl) pd__Lcom_example_sunder_sunder_query_Step__Z rfl (hb hby at_245) 0 (Nat.le_refl _) (by decide) (by decide) (by decide) (by decide) ?_
        intro v118 T118 L118 X118 hQ118
        obtain ⟨hv118, N118', e118⟩ := hQ118
        subst hv118
        have N118 := Fr.app N108 N118'
        show Go pP eE below _ (T118.setTop (mkF m 248 #[.val (.int p0), .val (.int p1), .val (.int p2), .val (.int p3), .val (.int p4), .val (.int (p0 &&& (3 : Int32))), .val (.int ((XT.ushr p0 (2 : Int32)) &&& (3 : Int32))), .val (.int ((XT.ushr p0 (4 : Int32)) &&& (3 : Int32))), .val (.int ((XT.ushr p0 (6 : Int32)) &&& (3 : Int32))), .val (.int (p1 &&& (255 : Int32))), .val (.int ((XT.ushr p1 (8 : Int32)) &&& (255 : Int32))), .val (.int ((XT.ushr p1 (16 : Int32)) &&& (255 : Int32))), .val (.int ((XT.ushr p1 (24 : Int32)) &&& (255 : Int32))), .val (.int r1), .val (.int r2), .val (.int r3), .val (.int r4), .val (.ref a5), .val (.ref a25), .val (.int (0 : Int32))] [(.int (own_adm (own_co (p0 &&& (3 : Int32)) (p1 &&& (255 : Int32)) ((XT.ushr p1 (8 : Int32)) &&& (255 : Int32))) (own_co ((XT.ushr p0 (2 : Int32)) &&& (3 : Int32)) ((XT.ushr p1 (16 : Int32)) &&& (255 : Int32)) ((XT.ushr p1 (24 : Int32)) &&& (255 : Int32))) (own_co ((XT.ushr p0 (4 : Int32)) &&& (3 : Int32)) r1 r2) (own_co ((XT.ushr p0 (6 : Int32)) &&& (3 : Int32)) r3 r4)))]))
        refine Go.st (S' := T118.setTop (mkF m 250 #[.val (.int p0), .val (.int p1), .val (.int p2), .val (.int p3), .val (.int p4), .val (.int (p0 &&& (3 : Int32))), .val (.int ((XT.ushr p0 (2 : Int32)) &&& (3 : Int32))), .val (.int ((XT.ushr p0 (4 : Int32)) &&& (3 : Int32))), .val (.int ((XT.ushr p0 (6 : Int32)) &&& (3 : Int32))), .val (.int (p1 &&& (255 : Int32))), .val (.int ((XT.ushr p1 (8 : Int32)) &&& (255 : Int32))), .val (.int ((XT.ushr p1 (16 : Int32)) &&& (255 : Int32))), .val (.int ((XT.ushr p1 (24 : Int32)) &&& (255 : Int32))), .val (.int r1), .val (.int r2), .val (.int r3), .val (.int r4), .val (.ref a5), .val (.ref a25), .val (.int (0 : Int32))] [(.int (0 : Int32)), (.int (own_adm (own_co (p0 &&& (3 : Int32)) (p1 &&& (255 : Int32)) ((XT.ushr p1 (8 : Int32)) &&& (255 : Int32))) (own_co ((XT.ushr p0 (2 : Int32)) &&& (3 : Int32)) ((XT.ushr p1 (16 : Int32)) &&& (255 : Int32)) ((XT.ushr p1 (24 : Int32)) &&& (255 : Int32))) (own_co ((XT.ushr p0 (4 : Int32)) &&& (3 : Int32)) r1 r2) (own_co ((XT.ushr p0 (6 : Int32)) &&& (3 : Int32)) r3 r4)))])) (fun t kt => XS.iload X118.here hx rfl (hb hby at_248) rfl kt) ?_
        refine Go.st (S' := T118.setTop (mkF m 253 #[.val (.int p0), .val (.int p1), .val (.int p2), .val (.int p3), .val (.int p4), .val (.int (p0 &&& (3 : Int32))), .val (.int ((XT.ushr p0 (2 : Int32)) &&& (3 : Int32))), .val (.int ((XT.ushr p0 (4 : Int32)) &&& (3 : Int32))), .val (.int ((XT.ushr p0 (6 : Int32)) &&& (3 : Int32))), .val (.int (p1 &&& (255 : Int32))), .val (.int ((XT.ushr p1 (8 : Int32)) &&& (255 : Int32))), .val (.int ((XT.ushr p1 (16 : Int32)) &&& (255 : Int32))), .val (.int ((XT.ushr p1 (24 : Int32)) &&& (255 : Int32))), .val (.int r1), .val (.int r2), .val (.int r3), .val (.int r4), .val (.ref a5), .val (.ref a25), .val (.int (0 : Int32))] [])) (fun t kt => XS.icmpNo X118.here hx rfl (hb hby at_250) rfl (XT.ii_ne_f ((own_fin (own_mask4 _) (own_mask4 _) (own_mask4 _) (own_mask4 _) ⟨_, rfl⟩ ⟨_, rfl⟩ lo1 lo2 ⟨_, rfl⟩ ⟨_, rfl⟩ lo3 lo4).trans (by simp [hc213_109]))) kt) ?_
        refine Go.st (S' := T118.setTop (mkF m 254 #[.val (.int p0), .val (.int p1), .val (.int p2), .val (.int p3), .val (.int p4), .val (.int (p0 &&& (3 : Int32))), .val (.int ((XT.ushr p0 (2 : Int32)) &&& (3 : Int32))), .val (.int ((XT.ushr p0 (4 : Int32)) &&& (3 : Int32))), .val (.int ((XT.ushr p0 (6 : Int32)) &&& (3 : Int32))), .val (.int (p1 &&& (255 : Int32))), .val (.int ((XT.ushr p1 (8 : Int32)) &&& (255 : Int32))), .val (.int ((XT.ushr p1 (16 : Int32)) &&& (255 : Int32))), .val (.int ((XT.ushr p1 (24 : Int32)) &&& (255 : Int32))), .val (.int r1), .val (.int r2), .val (.int r3), .val (.int r4), .val (.ref a5), .val (.ref a25), .val (.int (0 : Int32))] [(.int (1 : Int32))])) (fun t kt => XS.iconst X118.here hx rfl (hb hby at_253) kt) ?_
        refine Go.st (S' := T118.setTop (mkF m 258 #[.val (.int p0), .val (.int p1), .val (.int p2), .val (.int p3), .val (.int p4), .val (.int (p0 &&& (3 : Int32))), .val (.int ((XT.ushr p0 (2 : Int32)) &&& (3 : Int32))), .val (.int ((XT.ushr p0 (4 : Int32)) &&& (3 : Int32))), .val (.int ((XT.ushr p0 (6 : Int32)) &&& (3 : Int32))), .val (.int (p1 &&& (255 : Int32))), .val (.int ((XT.ushr p1 (8 : Int32)) &&& (255 : Int32))), .val (.int ((XT.ushr p1 (16 : Int32)) &&& (255 : Int32))), .val (.int ((XT.ushr p1 (24 : Int32)) &&& (255 : Int32))), .val (.int r1), .val (.int r2), .val (.int r3), .val (.int r4), .val (.ref a5), .val (.ref a25), .val (.int (0 : Int32))] [(.int (1 : Int32))])) (fun t kt => XS.goto X118.here hx rfl (pc0 := 254) (pc' := 258) rfl (hb hby at_254) (by decide) (by decide) kt) ?_
        exact retw_b X118 hZ hEL e118 C105 hS hk hx hlk hret (hb hby at_258) (by decide) (by decide) (⟨rfl, N118⟩)
      · refine Go.st (S' := T108.setTop (mkF m 216 #[.val (.int p0), .val (.int p1), .val (.int p2), .val (.int p3), .val (.int p4), .val (.int (p0 &&& (3 : Int32))), .val (.int ((XT.ushr p0 (2 : Int32)) &&& (3 : Int32))), .val (.int ((XT.ushr p0 (4 : Int32)) &&& (3 : Int32))), .val (.int ((XT.ushr p0 (6 : Int32)) &&& (3 : Int32))), .val (.int (p1 &&& (255 : Int32))), .val (.int ((XT.ushr p1 (8 : Int32)) &&& (255 : Int32))), .val (.int ((XT.ushr p1 (16 : Int32)) &&& (255 : Int32))), .val (.int ((XT.ushr p1 (24 : Int32)) &&& (255 : Int32))), .val (.int r1), .val (.int r2), .val (.int r3), .val (.int r4), .val (.ref a5), .val (.ref a25), .unset] [])) (fun t kt => XS.ifNo X108.here hx rfl (hb hby at_213) rfl (XT.i0_eq_f hc213_109) kt) ?_
        refine Go.st (S' := T108.setTop (mkF m 218 #[.val (.int p0), .val (.int p1), .val (.int p2), .val (.int p3), .val (.int p4), .val (.int (p0 &&& (3 : Int32))), .val (.int ((XT.ushr p0 (2 : Int32)) &&& (3 : Int32))), .val (.int ((XT.ushr p0 (4 : Int32)) &&& (3 : Int32))), .val (.int ((XT.ushr p0 (6 : Int32)) &&& (3 : Int32))), .val (.int (p1 &&& (255 : Int32))), .val (.int ((XT.ushr p1 (8 : Int32)) &&& (255 : Int32))), .val (.int ((XT.ushr p1 (16 : Int32)) &&& (255 : Int32))), .val (.int ((XT.ushr p1 (24 : Int32)) &&& (255 : Int32))), .val (.int r1), .val (.int r2), .val (.int r3), .val (.int r4), .val (.ref a5), .val (.ref a25), .unset] [(.int ((XT.ushr p0 (2 : Int32)) &&& (3 : Int32)))])) (fun t kt => XS.iload X108.here hx rfl (hb hby at_216) rfl kt) ?_
        refine Go.st (S' := T108.setTop (mkF m 220 #[.val (.int p0), .val (.int p1), .val (.int p2), .val (.int p3), .val (.int p4), .val (.int (p0 &&& (3 : Int32))), .val (.int ((XT.ushr p0 (2 : Int32)) &&& (3 : Int32))), .val (.int ((XT.ushr p0 (4 : Int32)) &&& (3 : Int32))), .val (.int ((XT.ushr p0 (6 : Int32)) &&& (3 : Int32))), .val (.int (p1 &&& (255 : Int32))), .val (.int ((XT.ushr p1 (8 : Int32)) &&& (255 : Int32))), .val (.int ((XT.ushr p1 (16 : Int32)) &&& (255 : Int32))), .val (.int ((XT.ushr p1 (24 : Int32)) &&& (255 : Int32))), .val (.int r1), .val (.int r2), .val (.int r3), .val (.int r4), .val (.ref a5), .val (.ref a25), .unset] [(.int ((XT.ushr p1 (16 : Int32)) &&& (255 : Int32))), (.int ((XT.ushr p0 (2 : Int32)) &&& (3 : Int32)))])) (fun t kt => XS.iload X108.here hx rfl (hb hby at_218) rfl kt) ?_
        refine Go.st (S' := T108.setTop (mkF m 222 #[.val (.int p0), .val (.int p1), .val (.int p2), .val (.int p3), .val (.int p4), .val (.int (p0 &&& (3 : Int32))), .val (.int ((XT.ushr p0 (2 : Int32)) &&& (3 : Int32))), .val (.int ((XT.ushr p0 (4 : Int32)) &&& (3 : Int32))), .val (.int ((XT.ushr p0 (6 : Int32)) &&& (3 : Int32))), .val (.int (p1 &&& (255 : Int32))), .val (.int ((XT.ushr p1 (8 : Int32)) &&& (255 : Int32))), .val (.int ((XT.ushr p1 (16 : Int32)) &&& (255 : Int32))), .val (.int ((XT.ushr p1 (24 : Int32)) &&& (255 : Int32))), .val (.int r1), .val (.int r2), .val (.int r3), .val (.int r4), .val (.ref a5), .val (.ref a25), .unset] [(.int ((XT.ushr p1 (24 : Int32)) &&& (255 : Int32))), (.int ((XT.ushr p1 (16 : Int32)) &&& (255 : Int32))), (.int ((XT.ushr p0 (2 : Int32)) &&& (3 : Int32)))])) (fun t kt => XS.iload X108.here hx rfl (hb hby at_220) rfl kt) ?_
        refine Go.st (S' := T108.setTop (mkF m 224 #[.val (.int p0), .val (.int p1), .val (.int p2), .val (.int p3), .val (.int p4), .val (.int (p0 &&& (3 : Int32))), .val (.int ((XT.ushr p0 (2 : Int32)) &&& (3 : Int32))), .val (.int ((XT.ushr p0 (4 : Int32)) &&& (3 : Int32))), .val (.int ((XT.ushr p0 (6 : Int32)) &&& (3 : Int32))), .val (.int (p1 &&& (255 : Int32))), .val (.int ((XT.ushr p1 (8 : Int32)) &&& (255 : Int32))), .val (.int ((XT.ushr p1 (16 : Int32)) &&& (255 : Int32))), .val (.int ((XT.ushr p1 (24 : Int32)) &&& (255 : Int32))), .val (.int r1), .val (.int r2), .val (.int r3), .val (.int r4), .val (.ref a5), .val (.ref a25), .unset] [(.int ((XT.ushr p0 (6 : Int32)) &&& (3 : Int32))), (.int ((XT.ushr p1 (24 : Int32)) &&& (255 : Int32))), (.int ((XT.ushr p1 (16 : Int32)) &&& (255 : Int32))), (.int ((XT.ushr p0 (2 : Int32)) &&& (3 : Int32)))])) (fun t kt => XS.iload X108.here hx rfl (hb hby at_222) rfl kt) ?_
        refine Go.st (S' := T108.setTop (mkF m 226 #[.val (.int p0), .val (.int p1), .val (.int p2), .val (.int p3), .val (.int p4), .val (.int (p0 &&& (3 : Int32))), .val (.int ((XT.ushr p0 (2 : Int32)) &&& (3 : Int32))), .val (.int ((XT.ushr p0 (4 : Int32)) &&& (3 : Int32))), .val (.int ((XT.ushr p0 (6 : Int32)) &&& (3 : Int32))), .val (.int (p1 &&& (255 : Int32))), .val (.int ((XT.ushr p1 (8 : Int32)) &&& (255 : Int32))), .val (.int ((XT.ushr p1 (16 : Int32)) &&& (255 : Int32))), .val (.int ((XT.ushr p1 (24 : Int32)) &&& (255 : Int32))), .val (.int r1), .val (.int r2), .val (.int r3), .val (.int r4), .val (.ref a5), .val (.ref a25), .unset] [(.int r3), (.int ((XT.ushr p0 (6 : Int32)) &&& (3 : Int32))), (.int ((XT.ushr p1 (24 : Int32)) &&& (255 : Int32))), (.int ((XT.ushr p1 (16 : Int32)) &&& (255 : Int32))), (.int ((XT.ushr p0 (2 : Int32)) &&& (3 : Int32)))])) (fun t kt => XS.iload X108.here hx rfl (hb hby at_224) rfl kt) ?_
        refine Go.st (S' := T108.setTop (mkF m 228 #[.val (.int p0), .val (.int p1), .val (.int p2), .val (.int p3), .val (.int p4), .val (.int (p0 &&& (3 : Int32))), .val (.int ((XT.ushr p0 (2 : Int32)) &&& (3 : Int32))), .val (.int ((XT.ushr p0 (4 : Int32)) &&& (3 : Int32))), .val (.int ((XT.ushr p0 (6 : Int32)) &&& (3 : Int32))), .val (.int (p1 &&& (255 : Int32))), .val (.int ((XT.ushr p1 (8 : Int32)) &&& (255 : Int32))), .val (.int ((XT.ushr p1 (16 : Int32)) &&& (255 : Int32))), .val (.int ((XT.ushr p1 (24 : Int32)) &&& (255 : Int32))), .val (.int r1), .val (.int r2), .val (.int r3), .val (.int r4), .val (.ref a5), .val (.ref a25), .unset] [(.int r4), (.int r3), (.int ((XT.ushr p0 (6 : Int32)) &&& (3 : Int32))), (.int ((XT.ushr p1 (24 : Int32)) &&& (255 : Int32))), (.int ((XT.ushr p1 (16 : Int32)) &&& (255 : Int32))), (.int ((XT.ushr p0 (2 : Int32)) &&& (3 : Int32)))])) (fun t kt => XS.iload X108.here hx rfl (hb hby at_226) rfl kt) ?_
        refine Go.stat X108 hx hZ hown (hw _ (List.mem_of_getElem? (i := 37) rfl)) (hw _ (List.mem_of_getElem? (i := 38) rfl)) (hw _ (List.mem_of_getElem? (i := 2) rfl)) (hw _ (List.mem_of_getElem? (i := 39) rfl)) (by decide) (argsL := [(.int ((XT.ushr p0 (2 : Int32)) &&& (3 : Int32))), (.int ((XT.ushr p1 (16 : Int32)) &&& (255 : Int32))), (.int ((XT.ushr p1 (24 : Int32)) &&& (255 : Int32))), (.int ((XT.ushr p0 (6 : Int32)) &&& (3 : Int32))), (.int r3), (.int r4)]) (rest := []) (rmCV l Z a0 hw ((XT.ushr p0 (2 : Int32)) &&& (3 : Int32)) ((XT.ushr p1 (16 : Int32)) &&& (255 : Int32)) ((XT.ushr p1 (24 : Int32)) &&& (255 : Int32)) ((XT.ushr p0 (6 : Int32)) &&& (3 : Int32)) r3 r4 T105.heap n0 Z105) e108 rfl (by rw [hml]; rfl) pd__IIIIII_Z rfl (hb hby at_228) 0 (Nat.le_refl _) (by decide) (by decide) (by decide) (by decide) ?_
        intro v119 T119 L119 X119 hQ119
        obtain ⟨hv119, N119', e119⟩ := hQ119
        subst hv119
        have N119 := Fr.app N108 N119'
        show Go pP eE below _ (T119.setTop (mkF m 231 #[.val (.int p0), .val (.int p1), .val (.int p2), .val (.int p3), .val (.int p4), .val (.int (p0 &&& (3 : Int32))), .val (.int ((XT.ushr p0 (2 : Int32)) &&& (3 : Int32))), .val (.int ((XT.ushr p0 (4 : Int32)) &&& (3 : Int32))), .val (.int ((XT.ushr p0 (6 : Int32)) &&& (3 : Int32))), .val (.int (p1 &&& (255 : Int32))), .val (.int ((XT.ushr p1 (8 : Int32)) &&& (255 : Int32))), .val (.int ((XT.ushr p1 (16 : Int32)) &&& (255 : Int32))), .val (.int ((XT.ushr p1 (24 : Int32)) &&& (255 : Int32))), .val (.int r1), .val (.int r2), .val (.int r3), .val (.int r4), .val (.ref a5), .val (.ref a25), .unset] [(.int (own_cov ((XT.ushr p0 (2 : Int32)) &&& (3 : Int32)) ((XT.ushr p1 (16 : Int32)) &&& (255 : Int32)) ((XT.ushr p1 (24 : Int32)) &&& (255 : Int32)) ((XT.ushr p0 (6 : Int32)) &&& (3 : Int32)) r3 r4))]))
        by_cases hc231_120 : (own_cov ((XT.ushr p0 (2 : Int32)) &&& (3 : Int32)) ((XT.ushr p1 (16 : Int32)) &&& (255 : Int32)) ((XT.ushr p1 (24 : Int32)) &&& (255 : Int32)) ((XT.ushr p0 (6 : Int32)) &&& (3 : Int32)) r3 r4) = 0
        · refine Go.st (S' := T119.setTop (mkF m 238 #[.val (.int p0), .val (.int p1), .val (.int p2), .val (.int p3), .val (.int p4), .val (.int (p0 &&& (3 : Int32))), .val (.int ((XT.ushr p0 (2 : Int32)) &&& (3 : Int32))), .val (.int ((XT.ushr p0 (4 : Int32)) &&& (3 : Int32))), .val (.int ((XT.ushr p0 (6 : Int32)) &&& (3 : Int32))), .val (.int (p1 &&& (255 : Int32))), .val (.int ((XT.ushr p1 (8 : Int32)) &&& (255 : Int32))), .val (.int ((XT.ushr p1 (16 : Int32)) &&& (255 : Int32))), .val (.int ((XT.ushr p1 (24 : Int32)) &&& (255 : Int32))), .val (.int r1), .val (.int r2), .val (.int r3), .val (.int r4), .val (.ref a5), .val (.ref a25), .unset] [])) (fun t kt => XS.ifYes X119.here hx rfl (pc0 := 231) (pc' := 238) rfl (hb hby at_231) rfl (XT.i0_eq_t hc231_120) (by decide) (by decide) kt) ?_
          refine Go.st (S' := T119.setTop (mkF m 239 #[.val (.int p0), .val (.int p1), .val (.int p2), .val (.int p3), .val (.int p4), .val (.int (p0 &&& (3 : Int32))), .val (.int ((XT.ushr p0 (2 : Int32)) &&& (3 : Int32))), .val (.int ((XT.ushr p0 (4 : Int32)) &&& (3 : Int32))), .val (.int ((XT.ushr p0 (6 : Int32)) &&& (3 : Int32))), .val (.int (p1 &&& (255 : Int32))), .val (.int ((XT.ushr p1 (8 : Int32)) &&& (255 : Int32))), .val (.int ((XT.ushr p1 (16 : Int32)) &&& (255 : Int32))), .val (.int ((XT.ushr p1 (24 : Int32)) &&& (255 : Int32))), .val (.int r1), .val (.int r2), .val (.int r3), .val (.int r4), .val (.ref a5), .val (.ref a25), .unset] [(.int (0 : Int32))])) (fun t kt => XS.iconst X119.here hx rfl (hb hby at_238) kt) ?_
          refine Go.st (S' := T119.setTop (mkF m 241 #[.val (.int p0), .val (.int p1), .val (.int p2), .val (.int p3), .val (.int p4), .val (.int (p0 &&& (3 : Int32))), .val (.int ((XT.ushr p0 (2 : Int32)) &&& (3 : Int32))), .val (.int ((XT.ushr p0 (4 : Int32)) &&& (3 : Int32))), .val (.int ((XT.ushr p0 (6 : Int32)) &&& (3 : Int32))), .val (.int (p1 &&& (255 : Int32))), .val (.int ((XT.ushr p1 (8 : Int32)) &&& (255 : Int32))), .val (.int ((XT.ushr p1 (16 : Int32)) &&& (255 : Int32))), .val (.int ((XT.ushr p1 (24 : Int32)) &&& (255 : Int32))), .val (.int r1), .val (.int r2), .val (.int r3), .val (.int r4), .val (.ref a5), .val (.ref a25), .val (.int (0 : Int32))] [])) (fun t kt => XS.istore X119.here hx rfl (hb hby at_239) rfl rfl kt) ?_
          refine Go.st (S' := T119.setTop (mkF m 243 #[.val (.int p0), .val (.int p1), .val (.int p2), .val (.int p3), .val (.int p4), .val (.int (p0 &&& (3 : Int32))), .val (.int ((XT.ushr p0 (2 : Int32)) &&& (3 : Int32))), .val (.int ((XT.ushr p0 (4 : Int32)) &&& (3 : Int32))), .val (.int ((XT.ushr p0 (6 : Int32)) &&& (3 : Int32))), .val (.int (p1 &&& (255 : Int32))), .val (.int ((XT.ushr p1 (8 : Int32)) &&& (255 : Int32))), .val (.int ((XT.ushr p1 (16 : Int32)) &&& (255 : Int32))), .val (.int ((XT.ushr p1 (24 : Int32)) &&& (255 : Int32))), .val (.int r1), .val (.int r2), .val (.int r3), .val (.int r4), .val (.ref a5), .val (.ref a25), .val (.int (0 : Int32))] [(.ref a5)])) (fun t kt => XS.aload X119.here hx rfl (hb hby at_241) rfl rfl kt) ?_
          refine Go.st (S' := T119.setTop (mkF m 245 #[.val (.int p0), .val (.int p1), .val (.int p2), .val (.int p3), .val (.int p4), .val (.int (p0 &&& (3 : Int32))), .val (.int ((XT.ushr p0 (2 : Int32)) &&& (3 : Int32))), .val (.int ((XT.ushr p0 (4 : Int32)) &&& (3 : Int32))), .val (.int ((XT.ushr p0 (6 : Int32)) &&& (3 : Int32))), .val (.int (p1 &&& (255 : Int32))), .val (.int ((XT.ushr p1 (8 : Int32)) &&& (255 : Int32))), .val (.int ((XT.ushr p1 (16 : Int32)) &&& (255 : Int32))), .val (.int ((XT.ushr p1 (24 : Int32)) &&& (255 : Int32))), .val (.int r1), .val (.int r2), .val (.int r3), .val (.int r4), .val (.ref a5), .val (.ref a25), .val (.int (0 : Int32))] [(.ref a25), (.ref a5)])) (fun t kt => XS.aload X119.here hx rfl (hb hby at_243) rfl rfl kt) ?_
          have f121 := (own_sta_keep (own_sta_keep f93 K94' all0) K105' (allS (own_obj_exa f99) all0))
          have f122 := (f106.keep K105')
          have f123 := ((((f23_1.ext E25).keep K89' nin0).keep K94' nin0).keep K105' (ninS (Nat.ne_of_lt (by rw [g25]; exact f23_0.lt)) nin0))
          have f124 := ((((f23_2.ext E25).keep K89' nin0).keep K94' nin0).keep K105' (ninS (Nat.ne_of_lt (by rw [g25]; exact f23_0.lt)) nin0))
          have f125 := (StrIs.keep (StrIs.keep f97 K94' all0) K105' (allS (own_nostr f99 (by decide) (hw _ (List.mem_of_getElem? (i := 5) rfl))) all0))
          have f126 := (StrIs.keep (StrIs.keep f98 K94' all0) K105' (allS (own_nostr f99 (by decide) (hw _ (List.mem_of_getElem? (i := 5) rfl))) all0))
          have f127 := (StrIs.keep (StrIs.keep f89_1 K94' all0) K105' (allS (own_nostr f99 (by decide) (hw _ (List.mem_of_getElem? (i := 5) rfl))) all0))
          have f128 := (StrIs.keep f94_1 K105' (allS (own_nostr f99 (by decide) (hw _ (List.mem_of_getElem? (i := 5) rfl))) all0))
          refine Go.virt X119 hx hZ hown (hw _ (List.mem_of_getElem? (i := 40) rfl)) (hw _ (List.mem_of_getElem? (i := 41) rfl)) (notFace_of_selects (mvT (args := #[]) hZ (hw _ (List.mem_of_getElem? (i := 43) rfl)))) (hw _ (List.mem_of_getElem? (i := 43) rfl)) (hw _ (List.mem_of_getElem? (i := 42) rfl)) (hw _ (List.mem_of_getElem? (i := 44) rfl)) (hw _ (List.mem_of_getElem? (i := 6) rfl)) (by decide) (b := a5) (argsL := [(.ref a25)]) (rest := []) (rmAE l Z a0 hw a5 a25 u13 u15 u89 u94 (own_co (p0 &&& (3 : Int32)) (p1 &&& (255 : Int32)) ((XT.ushr p1 (8 : Int32)) &&& (255 : Int32))) (own_co ((XT.ushr p0 (2 : Int32)) &&& (3 : Int32)) ((XT.ushr p1 (16 : Int32)) &&& (255 : Int32)) ((XT.ushr p1 (24 : Int32)) &&& (255 : Int32))) (own_co ((XT.ushr p0 (4 : Int32)) &&& (3 : Int32)) r1 r2) (own_co ((XT.ushr p0 (6 : Int32)) &&& (3 : Int32)) r3 r4) T105.heap n0 Z105 cs f121 hcs f122 f123 f124 f105_1 f105_2 hu_u89 hu_u94 f125 f126 f127 f128 (StrIs.sep f91 f89_0) (StrIs.sep f98 f94_0)) e119 f122 rfl (by rw [hml]; rfl) pd__Lcom_example_sunder_sunder_query_Step__Z rfl (hb hby at_245) 0 (Nat.le_refl _) (by decide) (by decide) (by decide) (by decide) ?_
          intro v129 T129 L129 X129 hQ129
          obtain ⟨hv129, N129', e129⟩ := hQ129
          subst hv129
          have N129 := Fr.app N119 N129'
          show Go pP eE below _ (T129.setTop (mkF m 248 #[.val (.int p0), .val (.int p1), .val (.int p2), .val (.int p3), .val (.int p4), .val (.int (p0 &&& (3 : Int32))), .val (.int ((XT.ushr p0 (2 : Int32)) &&& (3 : Int32))), .val (.int ((XT.ushr p0 (4 : Int32)) &&& (3 : Int32))), .val (.int ((XT.ushr p0 (6 : Int32)) &&& (3 : Int32))), .val (.int (p1 &&& (255 : Int32))), .val (.int ((XT.ushr p1 (8 : Int32)) &&& (255 : Int32))), .val (.int ((XT.ushr p1 (16 : Int32)) &&& (255 : Int32))), .val (.int ((XT.ushr p1 (24 : Int32)) &&& (255 : Int32))), .val (.int r1), .val (.int r2), .val (.int r3), .val (.int r4), .val (.ref a5), .val (.ref a25), .val (.int (0 : Int32))] [(.int (own_adm (own_co (p0 &&& (3 : Int32)) (p1 &&& (255 : Int32)) ((XT.ushr p1 (8 : Int32)) &&& (255 : Int32))) (own_co ((XT.ushr p0 (2 : Int32)) &&& (3 : Int32)) ((XT.ushr p1 (16 : Int32)) &&& (255 : Int32)) ((XT.ushr p1 (24 : Int32)) &&& (255 : Int32))) (own_co ((XT.ushr p0 (4 : Int32)) &&& (3 : Int32)) r1 r2) (own_co ((XT.ushr p0 (6 : Int32)) &&& (3 : Int32)) r3 r4)))]))
          refine Go.st (S' := T129.setTop (mkF m 250 #[.val (.int p0), .val (.int p1), .val (.int p2), .val (.int p3), .val (.int p4), .val (.int (p0 &&& (3 : Int32))), .val (.int ((XT.ushr p0 (2 : Int32)) &&& (3 : Int32))), .val (.int ((XT.ushr p0 (4 : Int32)) &&& (3 : Int32))), .val (.int ((XT.ushr p0 (6 : Int32)) &&& (3 : Int32))), .val (.int (p1 &&& (255 : Int32))), .val (.int ((XT.ushr p1 (8 : Int32)) &&& (255 : Int32))), .val (.int ((XT.ushr p1 (16 : Int32)) &&& (255 : Int32))), .val (.int ((XT.ushr p1 (24 : Int32)) &&& (255 : Int32))), .val (.int r1), .val (.int r2), .val (.int r3), .val (.int r4), .val (.ref a5), .val (.ref a25), .val (.int (0 : Int32))] [(.int (0 : Int32)), (.int (own_adm (own_co (p0 &&& (3 : Int32)) (p1 &&& (255 : Int32)) ((XT.ushr p1 (8 : Int32)) &&& (255 : Int32))) (own_co ((XT.ushr p0 (2 : Int32)) &&& (3 : Int32)) ((XT.ushr p1 (16 : Int32)) &&& (255 : Int32)) ((XT.ushr p1 (24 : Int32)) &&& (255 : Int32))) (own_co ((XT.ushr p0 (4 : Int32)) &&& (3 : Int32)) r1 r2) (own_co ((XT.ushr p0 (6 : Int32)) &&& (3 : Int32)) r3 r4)))])) (fun t kt => XS.iload X129.here hx rfl (hb hby at_248) rfl kt) ?_
          refine Go.st (S' := T129.setTop (mkF m 253 #[.val (.int p0), .val (.int p1), .val (.int p2), .val (.int p3), .val (.int p4), .val (.int (p0 &&& (3 : Int32))), .val (.int ((XT.ushr p0 (2 : Int32)) &&& (3 : Int32))), .val (.int ((XT.ushr p0 (4 : Int32)) &&& (3 : Int32))), .val (.int ((XT.ushr p0 (6 : Int32)) &&& (3 : Int32))), .val (.int (p1 &&& (255 : Int32))), .val (.int ((XT.ushr p1 (8 : Int32)) &&& (255 : Int32))), .val (.int ((XT.ushr p1 (16 : Int32)) &&& (255 : Int32))), .val (.int ((XT.ushr p1 (24 : Int32)) &&& (255 : Int32))), .val (.int r1), .val (.int r2), .val (.int r3), .val (.int r4), .val (.ref a5), .val (.ref a25), .val (.int (0 : Int32))] [])) (fun t kt => XS.icmpNo X129.here hx rfl (hb hby at_250) rfl (XT.ii_ne_f ((own_fin (own_mask4 _) (own_mask4 _) (own_mask4 _) (own_mask4 _) ⟨_, rfl⟩ ⟨_, rfl⟩ lo1 lo2 ⟨_, rfl⟩ ⟨_, rfl⟩ lo3 lo4).trans (by simp [hc213_109, hc231_120]))) kt) ?_
          refine Go.st (S' := T129.setTop (mkF m 254 #[.val (.int p0), .val (.int p1), .val (.int p2), .val (.int p3), .val (.int p4), .val (.int (p0 &&& (3 : Int32))), .val (.int ((XT.ushr p0 (2 : Int32)) &&& (3 : Int32))), .val (.int ((XT.ushr p0 (4 : Int32)) &&& (3 : Int32))), .val (.int ((XT.ushr p0 (6 : Int32)) &&& (3 : Int32))), .val (.int (p1 &&& (255 : Int32))), .val (.int ((XT.ushr p1 (8 : Int32)) &&& (255 : Int32))), .val (.int ((XT.ushr p1 (16 : Int32)) &&& (255 : Int32))), .val (.int ((XT.ushr p1 (24 : Int32)) &&& (255 : Int32))), .val (.int r1), .val (.int r2), .val (.int r3), .val (.int r4), .val (.ref a5), .val (.ref a25), .val (.int (0 : Int32))] [(.int (1 : Int32))])) (fun t kt => XS.iconst X129.here hx rfl (hb hby at_253) kt) ?_
          refine Go.st (S' := T129.setTop (mkF m 258 #[.val (.int p0), .val (.int p1), .val (.int p2), .val (.int p3), .val (.int p4), .val (.int (p0 &&& (3 : Int32))), .val (.int ((XT.ushr p0 (2 : Int32)) &&& (3 : Int32))), .val (.int ((XT.ushr p0 (4 : Int32)) &&& (3 : Int32))), .val (.int ((XT.ushr p0 (6 : Int32)) &&& (3 : Int32))), .val (.int (p1 &&& (255 : Int32))), .val (.int ((XT.ushr p1 (8 : Int32)) &&& (255 : Int32))), .val (.int ((XT.ushr p1 (16 : Int32)) &&& (255 : Int32))), .val (.int ((XT.ushr p1 (24 : Int32)) &&& (255 : Int32))), .val (.int r1), .val (.int r2), .val (.int r3), .val (.int r4), .val (.ref a5), .val (.ref a25), .val (.int (0 : Int32))] [(.int (1 : Int32))])) (fun t kt => XS.goto X129.here hx rfl (pc0 := 254) (pc' := 258) rfl (hb hby at_254) (by decide) (by decide) kt) ?_
          exact retw_b X129 hZ hEL e129 C105 hS hk hx hlk hret (hb hby at_258) (by decide) (by decide) (⟨rfl, N129⟩)
        · refine Go.st (S' := T119.setTop (mkF m 234 #[.val (.int p0), .val (.int p1), .val (.int p2), .val (.int p3), .val (.int p4), .val (.int (p0 &&& (3 : Int32))), .val (.int ((XT.ushr p0 (2 : Int32)) &&& (3 : Int32))), .val (.int ((XT.ushr p0 (4 : Int32)) &&& (3 : Int32))), .val (.int ((XT.ushr p0 (6 : Int32)) &&& (3 : Int32))), .val (.int (p1 &&& (255 : Int32))), .val (.int ((XT.ushr p1 (8 : Int32)) &&& (255 : Int32))), .val (.int ((XT.ushr p1 (16 : Int32)) &&& (255 : Int32))), .val (.int ((XT.ushr p1 (24 : Int32)) &&& (255 : Int32))), .val (.int r1), .val (.int r2), .val (.int r3), .val (.int r4), .val (.ref a5), .val (.ref a25), .unset] [])) (fun t kt => XS.ifNo X119.here hx rfl (hb hby at_231) rfl (XT.i0_eq_f hc231_120) kt) ?_
          refine Go.st (S' := T119.setTop (mkF m 235 #[.val (.int p0), .val (.int p1), .val (.int p2), .val (.int p3), .val (.int p4), .val (.int (p0 &&& (3 : Int32))), .val (.int ((XT.ushr p0 (2 : Int32)) &&& (3 : Int32))), .val (.int ((XT.ushr p0 (4 : Int32)) &&& (3 : Int32))), .val (.int ((XT.ushr p0 (6 : Int32)) &&& (3 : Int32))), .val (.int (p1 &&& (255 : Int32))), .val (.int ((XT.ushr p1 (8 : Int32)) &&& (255 : Int32))), .val (.int ((XT.ushr p1 (16 : Int32)) &&& (255 : Int32))), .val (.int ((XT.ushr p1 (24 : Int32)) &&& (255 : Int32))), .val (.int r1), .val (.int r2), .val (.int r3), .val (.int r4), .val (.ref a5), .val (.ref a25), .unset] [(.int (1 : Int32))])) (fun t kt => XS.iconst X119.here hx rfl (hb hby at_234) kt) ?_
          refine Go.st (S' := T119.setTop (mkF m 239 #[.val (.int p0), .val (.int p1), .val (.int p2), .val (.int p3), .val (.int p4), .val (.int (p0 &&& (3 : Int32))), .val (.int ((XT.ushr p0 (2 : Int32)) &&& (3 : Int32))), .val (.int ((XT.ushr p0 (4 : Int32)) &&& (3 : Int32))), .val (.int ((XT.ushr p0 (6 : Int32)) &&& (3 : Int32))), .val (.int (p1 &&& (255 : Int32))), .val (.int ((XT.ushr p1 (8 : Int32)) &&& (255 : Int32))), .val (.int ((XT.ushr p1 (16 : Int32)) &&& (255 : Int32))), .val (.int ((XT.ushr p1 (24 : Int32)) &&& (255 : Int32))), .val (.int r1), .val (.int r2), .val (.int r3), .val (.int r4), .val (.ref a5), .val (.ref a25), .unset] [(.int (1 : Int32))])) (fun t kt => XS.goto X119.here hx rfl (pc0 := 235) (pc' := 239) rfl (hb hby at_235) (by decide) (by decide) kt) ?_
          refine Go.st (S' := T119.setTop (mkF m 241 #[.val (.int p0), .val (.int p1), .val (.int p2), .val (.int p3), .val (.int p4), .val (.int (p0 &&& (3 : Int32))), .val (.int ((XT.ushr p0 (2 : Int32)) &&& (3 : Int32))), .val (.int ((XT.ushr p0 (4 : Int32)) &&& (3 : Int32))), .val (.int ((XT.ushr p0 (6 : Int32)) &&& (3 : Int32))), .val (.int (p1 &&& (255 : Int32))), .val (.int ((XT.ushr p1 (8 : Int32)) &&& (255 : Int32))), .val (.int ((XT.ushr p1 (16 : Int32)) &&& (255 : Int32))), .val (.int ((XT.ushr p1 (24 : Int32)) &&& (255 : Int32))), .val (.int r1), .val (.int r2), .val (.int r3), .val (.int r4), .val (.ref a5), .val (.ref a25), .val (.int (1 : Int32))] [])) (fun t kt => XS.istore X119.here hx rfl (hb hby at_239) rfl rfl kt) ?_
          refine Go.st (S' := T119.setTop (mkF m 243 #[.val (.int p0), .val (.int p1), .val (.int p2), .val (.int p3), .val (.int p4), .val (.int (p0 &&& (3 : Int32))), .val (.int ((XT.ushr p0 (2 : Int32)) &&& (3 : Int32))), .val (.int ((XT.ushr p0 (4 : Int32)) &&& (3 : Int32))), .val (.int ((XT.ushr p0 (6 : Int32)) &&& (3 : Int32))), .val (.int (p1 &&& (255 : Int32))), .val (.int ((XT.ushr p1 (8 : Int32)) &&& (255 : Int32))), .val (.int ((XT.ushr p1 (16 : Int32)) &&& (255 : Int32))), .val (.int ((XT.ushr p1 (24 : Int32)) &&& (255 : Int32))), .val (.int r1), .val (.int r2), .val (.int r3), .val (.int r4), .val (.ref a5), .val (.ref a25), .val (.int (1 : Int32))] [(.ref a5)])) (fun t kt => XS.aload X119.here hx rfl (hb hby at_241) rfl rfl kt) ?_
          refine Go.st (S' := T119.setTop (mkF m 245 #[.val (.int p0), .val (.int p1), .val (.int p2), .val (.int p3), .val (.int p4), .val (.int (p0 &&& (3 : Int32))), .val (.int ((XT.ushr p0 (2 : Int32)) &&& (3 : Int32))), .val (.int ((XT.ushr p0 (4 : Int32)) &&& (3 : Int32))), .val (.int ((XT.ushr p0 (6 : Int32)) &&& (3 : Int32))), .val (.int (p1 &&& (255 : Int32))), .val (.int ((XT.ushr p1 (8 : Int32)) &&& (255 : Int32))), .val (.int ((XT.ushr p1 (16 : Int32)) &&& (255 : Int32))), .val (.int ((XT.ushr p1 (24 : Int32)) &&& (255 : Int32))), .val (.int r1), .val (.int r2), .val (.int r3), .val (.int r4), .val (.ref a5), .val (.ref a25), .val (.int (1 : Int32))] [(.ref a25), (.ref a5)])) (fun t kt => XS.aload X119.here hx rfl (hb hby at_243) rfl rfl kt) ?_
          have f130 := (own_sta_keep (own_sta_keep f93 K94' all0) K105' (allS (own_obj_exa f99) all0))
          have f131 := (f106.keep K105')
          have f132 := ((((f23_1.ext E25).keep K89' nin0).keep K94' nin0).keep K105' (ninS (Nat.ne_of_lt (by rw [g25]; exact f23_0.lt)) nin0))
          have f133 := ((((f23_2.ext E25).keep K89' nin0).keep K94' nin0).keep K105' (ninS (Nat.ne_of_lt (by rw [g25]; exact f23_0.lt)) nin0))
          have f134 := (StrIs.keep (StrIs.keep f97 K94' all0) K105' (allS (own_nostr f99 (by decide) (hw _ (List.mem_of_getElem? (i := 5) rfl))) all0))
          have f135 := (StrIs.keep (StrIs.keep f98 K94' all0) K105' (allS (own_nostr f99 (by decide) (hw _ (List.mem_of_getElem? (i := 5) rfl))) all0))
          have f136 := (StrIs.keep (StrIs.keep f89_1 K94' all0) K105' (allS (own_nostr f99 (by decide) (hw _ (List.mem_of_getElem? (i := 5) rfl))) all0))
          have f137 := (StrIs.keep f94_1 K105' (allS (own_nostr f99 (by decide) (hw _ (List.mem_of_getElem? (i := 5) rfl))) all0))
          refine Go.virt X119 hx hZ hown (hw _ (List.mem_of_getElem? (i := 40) rfl)) (hw _ (List.mem_of_getElem? (i := 41) rfl)) (notFace_of_selects (mvT (args := #[]) hZ (hw _ (List.mem_of_getElem? (i := 43) rfl)))) (hw _ (List.mem_of_getElem? (i := 43) rfl)) (hw _ (List.mem_of_getElem? (i := 42) rfl)) (hw _ (List.mem_of_getElem? (i := 44) rfl)) (hw _ (List.mem_of_getElem? (i := 6) rfl)) (by decide) (b := a5) (argsL := [(.ref a25)]) (rest := []) (rmAE l Z a0 hw a5 a25 u13 u15 u89 u94 (own_co (p0 &&& (3 : Int32)) (p1 &&& (255 : Int32)) ((XT.ushr p1 (8 : Int32)) &&& (255 : Int32))) (own_co ((XT.ushr p0 (2 : Int32)) &&& (3 : Int32)) ((XT.ushr p1 (16 : Int32)) &&& (255 : Int32)) ((XT.ushr p1 (24 : Int32)) &&& (255 : Int32))) (own_co ((XT.ushr p0 (4 : Int32)) &&& (3 : Int32)) r1 r2) (own_co ((XT.ushr p0 (6 : Int32)) &&& (3 : Int32)) r3 r4) T105.heap n0 Z105 cs f130 hcs f131 f132 f133 f105_1 f105_2 hu_u89 hu_u94 f134 f135 f136 f137 (StrIs.sep f91 f89_0) (StrIs.sep f98 f94_0)) e119 f131 rfl (by rw [hml]; rfl) pd__Lcom_example_sunder_sunder_query_Step__Z rfl (hb hby at_245) 0 (Nat.le_refl _) (by decide) (by decide) (by decide) (by decide) ?_
          intro v138 T138 L138 X138 hQ138
          obtain ⟨hv138, N138', e138⟩ := hQ138
          subst hv138
          have N138 := Fr.app N119 N138'
          show Go pP eE below _ (T138.setTop (mkF m 248 #[.val (.int p0), .val (.int p1), .val (.int p2), .val (.int p3), .val (.int p4), .val (.int (p0 &&& (3 : Int32))), .val (.int ((XT.ushr p0 (2 : Int32)) &&& (3 : Int32))), .val (.int ((XT.ushr p0 (4 : Int32)) &&& (3 : Int32))), .val (.int ((XT.ushr p0 (6 : Int32)) &&& (3 : Int32))), .val (.int (p1 &&& (255 : Int32))), .val (.int ((XT.ushr p1 (8 : Int32)) &&& (255 : Int32))), .val (.int ((XT.ushr p1 (16 : Int32)) &&& (255 : Int32))), .val (.int ((XT.ushr p1 (24 : Int32)) &&& (255 : Int32))), .val (.int r1), .val (.int r2), .val (.int r3), .val (.int r4), .val (.ref a5), .val (.ref a25), .val (.int (1 : Int32))] [(.int (own_adm (own_co (p0 &&& (3 : Int32)) (p1 &&& (255 : Int32)) ((XT.ushr p1 (8 : Int32)) &&& (255 : Int32))) (own_co ((XT.ushr p0 (2 : Int32)) &&& (3 : Int32)) ((XT.ushr p1 (16 : Int32)) &&& (255 : Int32)) ((XT.ushr p1 (24 : Int32)) &&& (255 : Int32))) (own_co ((XT.ushr p0 (4 : Int32)) &&& (3 : Int32)) r1 r2) (own_co ((XT.ushr p0 (6 : Int32)) &&& (3 : Int32)) r3 r4)))]))
          refine Go.st (S' := T138.setTop (mkF m 250 #[.val (.int p0), .val (.int p1), .val (.int p2), .val (.int p3), .val (.int p4), .val (.int (p0 &&& (3 : Int32))), .val (.int ((XT.ushr p0 (2 : Int32)) &&& (3 : Int32))), .val (.int ((XT.ushr p0 (4 : Int32)) &&& (3 : Int32))), .val (.int ((XT.ushr p0 (6 : Int32)) &&& (3 : Int32))), .val (.int (p1 &&& (255 : Int32))), .val (.int ((XT.ushr p1 (8 : Int32)) &&& (255 : Int32))), .val (.int ((XT.ushr p1 (16 : Int32)) &&& (255 : Int32))), .val (.int ((XT.ushr p1 (24 : Int32)) &&& (255 : Int32))), .val (.int r1), .val (.int r2), .val (.int r3), .val (.int r4), .val (.ref a5), .val (.ref a25), .val (.int (1 : Int32))] [(.int (1 : Int32)), (.int (own_adm (own_co (p0 &&& (3 : Int32)) (p1 &&& (255 : Int32)) ((XT.ushr p1 (8 : Int32)) &&& (255 : Int32))) (own_co ((XT.ushr p0 (2 : Int32)) &&& (3 : Int32)) ((XT.ushr p1 (16 : Int32)) &&& (255 : Int32)) ((XT.ushr p1 (24 : Int32)) &&& (255 : Int32))) (own_co ((XT.ushr p0 (4 : Int32)) &&& (3 : Int32)) r1 r2) (own_co ((XT.ushr p0 (6 : Int32)) &&& (3 : Int32)) r3 r4)))])) (fun t kt => XS.iload X138.here hx rfl (hb hby at_248) rfl kt) ?_
          refine Go.st (S' := T138.setTop (mkF m 253 #[.val (.int p0), .val (.int p1), .val (.int p2), .val (.int p3), .val (.int p4), .val (.int (p0 &&& (3 : Int32))), .val (.int ((XT.ushr p0 (2 : Int32)) &&& (3 : Int32))), .val (.int ((XT.ushr p0 (4 : Int32)) &&& (3 : Int32))), .val (.int ((XT.ushr p0 (6 : Int32)) &&& (3 : Int32))), .val (.int (p1 &&& (255 : Int32))), .val (.int ((XT.ushr p1 (8 : Int32)) &&& (255 : Int32))), .val (.int ((XT.ushr p1 (16 : Int32)) &&& (255 : Int32))), .val (.int ((XT.ushr p1 (24 : Int32)) &&& (255 : Int32))), .val (.int r1), .val (.int r2), .val (.int r3), .val (.int r4), .val (.ref a5), .val (.ref a25), .val (.int (1 : Int32))] [])) (fun t kt => XS.icmpNo X138.here hx rfl (hb hby at_250) rfl (XT.ii_ne_f ((own_fin (own_mask4 _) (own_mask4 _) (own_mask4 _) (own_mask4 _) ⟨_, rfl⟩ ⟨_, rfl⟩ lo1 lo2 ⟨_, rfl⟩ ⟨_, rfl⟩ lo3 lo4).trans (by simp [hc213_109, hc231_120]))) kt) ?_
          refine Go.st (S' := T138.setTop (mkF m 254 #[.val (.int p0), .val (.int p1), .val (.int p2), .val (.int p3), .val (.int p4), .val (.int (p0 &&& (3 : Int32))), .val (.int ((XT.ushr p0 (2 : Int32)) &&& (3 : Int32))), .val (.int ((XT.ushr p0 (4 : Int32)) &&& (3 : Int32))), .val (.int ((XT.ushr p0 (6 : Int32)) &&& (3 : Int32))), .val (.int (p1 &&& (255 : Int32))), .val (.int ((XT.ushr p1 (8 : Int32)) &&& (255 : Int32))), .val (.int ((XT.ushr p1 (16 : Int32)) &&& (255 : Int32))), .val (.int ((XT.ushr p1 (24 : Int32)) &&& (255 : Int32))), .val (.int r1), .val (.int r2), .val (.int r3), .val (.int r4), .val (.ref a5), .val (.ref a25), .val (.int (1 : Int32))] [(.int (1 : Int32))])) (fun t kt => XS.iconst X138.here hx rfl (hb hby at_253) kt) ?_
          refine Go.st (S' := T138.setTop (mkF m 258 #[.val (.int p0), .val (.int p1), .val (.int p2), .val (.int p3), .val (.int p4), .val (.int (p0 &&& (3 : Int32))), .val (.int ((XT.ushr p0 (2 : Int32)) &&& (3 : Int32))), .val (.int ((XT.ushr p0 (4 : Int32)) &&& (3 : Int32))), .val (.int ((XT.ushr p0 (6 : Int32)) &&& (3 : Int32))), .val (.int (p1 &&& (255 : Int32))), .val (.int ((XT.ushr p1 (8 : Int32)) &&& (255 : Int32))), .val (.int ((XT.ushr p1 (16 : Int32)) &&& (255 : Int32))), .val (.int ((XT.ushr p1 (24 : Int32)) &&& (255 : Int32))), .val (.int r1), .val (.int r2), .val (.int r3), .val (.int r4), .val (.ref a5), .val (.ref a25), .val (.int (1 : Int32))] [(.int (1 : Int32))])) (fun t kt => XS.goto X138.here hx rfl (pc0 := 254) (pc' := 258) rfl (hb hby at_254) (by decide) (by decide) kt) ?_
          exact retw_b X138 hZ hEL e138 C105 hS hk hx hlk hret (hb hby at_258) (by decide) (by decide) (⟨rfl, N138⟩)
  · refine Go.st (S' := T5.setTop (mkF m 115 #[.val (.int p0), .val (.int p1), .val (.int p2), .val (.int p3), .val (.int p4), .val (.int (p0 &&& (3 : Int32))), .val (.int ((XT.ushr p0 (2 : Int32)) &&& (3 : Int32))), .val (.int ((XT.ushr p0 (4 : Int32)) &&& (3 : Int32))), .val (.int ((XT.ushr p0 (6 : Int32)) &&& (3 : Int32))), .val (.int (p1 &&& (255 : Int32))), .val (.int ((XT.ushr p1 (8 : Int32)) &&& (255 : Int32))), .val (.int ((XT.ushr p1 (16 : Int32)) &&& (255 : Int32))), .val (.int ((XT.ushr p1 (24 : Int32)) &&& (255 : Int32))), .val (.int r1), .val (.int r2), .val (.int r3), .val (.int r4), .unset, .unset, .unset] [(.ref a5), (.ref a5)])) (fun t kt => XS.ifNo X5.here hx rfl (hb hby at_112) rfl (XT.i0_eq_f hc112_6) kt) ?_
    refine Go.st (S' := T5.setTop (mkF m 116 #[.val (.int p0), .val (.int p1), .val (.int p2), .val (.int p3), .val (.int p4), .val (.int (p0 &&& (3 : Int32))), .val (.int ((XT.ushr p0 (2 : Int32)) &&& (3 : Int32))), .val (.int ((XT.ushr p0 (4 : Int32)) &&& (3 : Int32))), .val (.int ((XT.ushr p0 (6 : Int32)) &&& (3 : Int32))), .val (.int (p1 &&& (255 : Int32))), .val (.int ((XT.ushr p1 (8 : Int32)) &&& (255 : Int32))), .val (.int ((XT.ushr p1 (16 : Int32)) &&& (255 : Int32))), .val (.int ((XT.ushr p1 (24 : Int32)) &&& (255 : Int32))), .val (.int r1), .val (.int r2), .val (.int r3), .val (.int r4), .unset, .unset, .unset] [(.int (1 : Int32)), (.ref a5), (.ref a5)])) (fun t kt => XS.iconst X5.here hx rfl (hb hby at_115) kt) ?_
    refine Go.st (S' := T5.setTop (mkF m 120 #[.val (.int p0), .val (.int p1), .val (.int p2), .val (.int p3), .val (.int p4), .val (.int (p0 &&& (3 : Int32))), .val (.int ((XT.ushr p0 (2 : Int32)) &&& (3 : Int32))), .val (.int ((XT.ushr p0 (4 : Int32)) &&& (3 : Int32))), .val (.int ((XT.ushr p0 (6 : Int32)) &&& (3 : Int32))), .val (.int (p1 &&& (255 : Int32))), .val (.int ((XT.ushr p1 (8 : Int32)) &&& (255 : Int32))), .val (.int ((XT.ushr p1 (16 : Int32)) &&& (255 : Int32))), .val (.int ((XT.ushr p1 (24 : Int32)) &&& (255 : Int32))), .val (.int r1), .val (.int r2), .val (.int r3), .val (.int r4), .unset, .unset, .unset] [(.int (1 : Int32)), (.ref a5), (.ref a5)])) (fun t kt => XS.goto X5.here hx rfl (pc0 := 116) (pc' := 120) rfl (hb hby at_116) (by decide) (by decide) kt) ?_
    refine Go.st (S' := T5.setTop (mkF m 122 #[.val (.int p0), .val (.int p1), .val (.int p2), .val (.int p3), .val (.int p4), .val (.int (p0 &&& (3 : Int32))), .val (.int ((XT.ushr p0 (2 : Int32)) &&& (3 : Int32))), .val (.int ((XT.ushr p0 (4 : Int32)) &&& (3 : Int32))), .val (.int ((XT.ushr p0 (6 : Int32)) &&& (3 : Int32))), .val (.int (p1 &&& (255 : Int32))), .val (.int ((XT.ushr p1 (8 : Int32)) &&& (255 : Int32))), .val (.int ((XT.ushr p1 (16 : Int32)) &&& (255 : Int32))), .val (.int ((XT.ushr p1 (24 : Int32)) &&& (255 : Int32))), .val (.int r1), .val (.int r2), .val (.int r3), .val (.int r4), .unset, .unset, .unset] [(.int p4), (.int (1 : Int32)), (.ref a5), (.ref a5)])) (fun t kt => XS.iload X5.here hx rfl (hb hby at_120) rfl kt) ?_
    have f139 := (S_ELEMENT.ext E5)
    have f140 := (S_ATTRIBUTE.ext E5)
    have f141 := (S_TEXT.ext E5)
    have f142 := (S_SELF.ext E5)
    refine Go.stat X5 hx hZ hown (hw _ (List.mem_of_getElem? (i := 7) rfl)) (hw _ (List.mem_of_getElem? (i := 8) rfl)) (hw _ (List.mem_of_getElem? (i := 2) rfl)) (hw _ (List.mem_of_getElem? (i := 9) rfl)) (by decide) (argsL := [(.int p4)]) (rest := [(.int (1 : Int32)), (.ref a5), (.ref a5)]) (rmKN l Z a0 hw p4 h5 n0 Z5 k_ELEMENT k_ATTRIBUTE k_TEXT k_SELF f139 f140 f141 f142) e5 rfl (by rw [hml]; rfl) pd__I_Lcom_example_sunder_sunder_query_Step_Kind_ rfl (hb hby at_122) 3 (Nat.le_refl _) (by decide) (by decide) (by decide) (by decide) ?_
    intro v143 T143 L143 X143 hQ143
    obtain ⟨u143, hv143, N143', e143, hu143⟩ := hQ143
    subst hv143
    have N143 := Fr.app N4 N143'
    show Go pP eE below _ (T143.setTop (mkF m 125 #[.val (.int p0), .val (.int p1), .val (.int p2), .val (.int p3), .val (.int p4), .val (.int (p0 &&& (3 : Int32))), .val (.int ((XT.ushr p0 (2 : Int32)) &&& (3 : Int32))), .val (.int ((XT.ushr p0 (4 : Int32)) &&& (3 : Int32))), .val (.int ((XT.ushr p0 (6 : Int32)) &&& (3 : Int32))), .val (.int (p1 &&& (255 : Int32))), .val (.int ((XT.ushr p1 (8 : Int32)) &&& (255 : Int32))), .val (.int ((XT.ushr p1 (16 : Int32)) &&& (255 : Int32))), .val (.int ((XT.ushr p1 (24 : Int32)) &&& (255 : Int32))), .val (.int r1), .val (.int r2), .val (.int r3), .val (.int r4), .unset, .unset, .unset] [u143, (.int (1 : Int32)), (.ref a5), (.ref a5)]))
    refine Go.st (S' := T143.setTop (mkF m 127 #[.val (.int p0), .val (.int p1), .val (.int p2), .val (.int p3), .val (.int p4), .val (.int (p0 &&& (3 : Int32))), .val (.int ((XT.ushr p0 (2 : Int32)) &&& (3 : Int32))), .val (.int ((XT.ushr p0 (4 : Int32)) &&& (3 : Int32))), .val (.int ((XT.ushr p0 (6 : Int32)) &&& (3 : Int32))), .val (.int (p1 &&& (255 : Int32))), .val (.int ((XT.ushr p1 (8 : Int32)) &&& (255 : Int32))), .val (.int ((XT.ushr p1 (16 : Int32)) &&& (255 : Int32))), .val (.int ((XT.ushr p1 (24 : Int32)) &&& (255 : Int32))), .val (.int r1), .val (.int r2), .val (.int r3), .val (.int r4), .unset, .unset, .unset] [(.int (p0 &&& (3 : Int32))), u143, (.int (1 : Int32)), (.ref a5), (.ref a5)])) (fun t kt => XS.iload X143.here hx rfl (hb hby at_125) rfl kt) ?_
    refine Go.st (S' := T143.setTop (mkF m 129 #[.val (.int p0), .val (.int p1), .val (.int p2), .val (.int p3), .val (.int p4), .val (.int (p0 &&& (3 : Int32))), .val (.int ((XT.ushr p0 (2 : Int32)) &&& (3 : Int32))), .val (.int ((XT.ushr p0 (4 : Int32)) &&& (3 : Int32))), .val (.int ((XT.ushr p0 (6 : Int32)) &&& (3 : Int32))), .val (.int (p1 &&& (255 : Int32))), .val (.int ((XT.ushr p1 (8 : Int32)) &&& (255 : Int32))), .val (.int ((XT.ushr p1 (16 : Int32)) &&& (255 : Int32))), .val (.int ((XT.ushr p1 (24 : Int32)) &&& (255 : Int32))), .val (.int r1), .val (.int r2), .val (.int r3), .val (.int r4), .unset, .unset, .unset] [(.int (p1 &&& (255 : Int32))), (.int (p0 &&& (3 : Int32))), u143, (.int (1 : Int32)), (.ref a5), (.ref a5)])) (fun t kt => XS.iload X143.here hx rfl (hb hby at_127) rfl kt) ?_
    refine Go.st (S' := T143.setTop (mkF m 131 #[.val (.int p0), .val (.int p1), .val (.int p2), .val (.int p3), .val (.int p4), .val (.int (p0 &&& (3 : Int32))), .val (.int ((XT.ushr p0 (2 : Int32)) &&& (3 : Int32))), .val (.int ((XT.ushr p0 (4 : Int32)) &&& (3 : Int32))), .val (.int ((XT.ushr p0 (6 : Int32)) &&& (3 : Int32))), .val (.int (p1 &&& (255 : Int32))), .val (.int ((XT.ushr p1 (8 : Int32)) &&& (255 : Int32))), .val (.int ((XT.ushr p1 (16 : Int32)) &&& (255 : Int32))), .val (.int ((XT.ushr p1 (24 : Int32)) &&& (255 : Int32))), .val (.int r1), .val (.int r2), .val (.int r3), .val (.int r4), .unset, .unset, .unset] [(.int ((XT.ushr p1 (8 : Int32)) &&& (255 : Int32))), (.int (p1 &&& (255 : Int32))), (.int (p0 &&& (3 : Int32))), u143, (.int (1 : Int32)), (.ref a5), (.ref a5)])) (fun t kt => XS.iload X143.here hx rfl (hb hby at_129) rfl kt) ?_
    have f144 := (S_cs.ext E5)
    refine Go.statW X143 hx hZ hEL C5.1 hS hk hown (hw _ (List.mem_of_getElem? (i := 13) rfl)) (hw _ (List.mem_of_getElem? (i := 14) rfl)) (hw _ (List.mem_of_getElem? (i := 2) rfl)) (hw _ (List.mem_of_getElem? (i := 15) rfl)) (by decide) (argsL := [(.int (p0 &&& (3 : Int32))), (.int (p1 &&& (255 : Int32))), (.int ((XT.ushr p1 (8 : Int32)) &&& (255 : Int32)))]) (rest := [u143, (.int (1 : Int32)), (.ref a5), (.ref a5)]) (rmMK l Z a0 hw (p0 &&& (3 : Int32)) (p1 &&& (255 : Int32)) ((XT.ushr p1 (8 : Int32)) &&& (255 : Int32)) h5 n0 Z5 cs f144 hcs ⟨_, rfl⟩ ⟨_, rfl⟩) e143 rfl (by rw [hml]; rfl) pd__III_Ljava_lang_String_ rfl (hb hby at_131) 4 (by simp [own_cat_r, own_cat_i, own_cat_n, own_cat_j, own_cat_d, XT.cat1 hu143]) (by decide) (by decide) (by decide) (by decide) ?_
    intro v145 T145 L145 X145 hQ145 A145 hS
    have hk : T145.heap.size ≤ T145.heap.size := Nat.le_refl _
    have hZ := own_hZ hZ0 hS
    have hown := own_hown hown0 hS
    obtain ⟨u145, hv145, N145', K145', f145_0, f145_1⟩ := hQ145
    subst hv145
    have N145 := Fr.app N143 N145'
    have Z145 : n0 ≤ T145.heap.size := Nat.le_trans Z5 K145'.1
    have eh145 : T145.heap = T145.heap := rfl
    have C145 := CHr.trans C5 A145
    have hu_u145 := StrIs.isRef f145_1
    show Go pP eE below _ (T145.setTop (mkF m 134 #[.val (.int p0), .val (.int p1), .val (.int p2), .val (.int p3), .val (.int p4), .val (.int (p0 &&& (3 : Int32))), .val (.int ((XT.ushr p0 (2 : Int32)) &&& (3 : Int32))), .val (.int ((XT.ushr p0 (4 : Int32)) &&& (3 : Int32))), .val (.int ((XT.ushr p0 (6 : Int32)) &&& (3 : Int32))), .val (.int (p1 &&& (255 : Int32))), .val (.int ((XT.ushr p1 (8 : Int32)) &&& (255 : Int32))), .val (.int ((XT.ushr p1 (16 : Int32)) &&& (255 : Int32))), .val (.int ((XT.ushr p1 (24 : Int32)) &&& (255 : Int32))), .val (.int r1), .val (.int r2), .val (.int r3), .val (.int r4), .unset, .unset, .unset] [u145, u143, (.int (1 : Int32)), (.ref a5), (.ref a5)]))
    refine Go.st (S' := T145.setTop (mkF m 136 #[.val (.int p0), .val (.int p1), .val (.int p2), .val (.int p3), .val (.int p4), .val (.int (p0 &&& (3 : Int32))), .val (.int ((XT.ushr p0 (2 : Int32)) &&& (3 : Int32))), .val (.int ((XT.ushr p0 (4 : Int32)) &&& (3 : Int32))), .val (.int ((XT.ushr p0 (6 : Int32)) &&& (3 : Int32))), .val (.int (p1 &&& (255 : Int32))), .val (.int ((XT.ushr p1 (8 : Int32)) &&& (255 : Int32))), .val (.int ((XT.ushr p1 (16 : Int32)) &&& (255 : Int32))), .val (.int ((XT.ushr p1 (24 : Int32)) &&& (255 : Int32))), .val (.int r1), .val (.int r2), .val (.int r3), .val (.int r4), .unset, .unset, .unset] [(.int ((XT.ushr p0 (2 : Int32)) &&& (3 : Int32))), u145, u143, (.int (1 : Int32)), (.ref a5), (.ref a5)])) (fun t kt => XS.iload X145.here hx rfl (hb hby at_134) rfl kt) ?_
    refine Go.st (S' := T145.setTop (mkF m 138 #[.val (.int p0), .val (.int p1), .val (.int p2), .val (.int p3), .val (.int p4), .val (.int (p0 &&& (3 : Int32))), .val (.int ((XT.ushr p0 (2 : Int32)) &&& (3 : Int32))), .val (.int ((XT.ushr p0 (4 : Int32)) &&& (3 : Int32))), .val (.int ((XT.ushr p0 (6 : Int32)) &&& (3 : Int32))), .val (.int (p1 &&& (255 : Int32))), .val (.int ((XT.ushr p1 (8 : Int32)) &&& (255 : Int32))), .val (.int ((XT.ushr p1 (16 : Int32)) &&& (255 : Int32))), .val (.int ((XT.ushr p1 (24 : Int32)) &&& (255 : Int32))), .val (.int r1), .val (.int r2), .val (.int r3), .val (.int r4), .unset, .unset, .unset] [(.int ((XT.ushr p1 (16 : Int32)) &&& (255 : Int32))), (.int ((XT.ushr p0 (2 : Int32)) &&& (3 : Int32))), u145, u143, (.int (1 : Int32)), (.ref a5), (.ref a5)])) (fun t kt => XS.iload X145.here hx rfl (hb hby at_136) rfl kt) ?_
    refine Go.st (S' := T145.setTop (mkF m 140 #[.val (.int p0), .val (.int p1), .val (.int p2), .val (.int p3), .val (.int p4), .val (.int (p0 &&& (3 : Int32))), .val (.int ((XT.ushr p0 (2 : Int32)) &&& (3 : Int32))), .val (.int ((XT.ushr p0 (4 : Int32)) &&& (3 : Int32))), .val (.int ((XT.ushr p0 (6 : Int32)) &&& (3 : Int32))), .val (.int (p1 &&& (255 : Int32))), .val (.int ((XT.ushr p1 (8 : Int32)) &&& (255 : Int32))), .val (.int ((XT.ushr p1 (16 : Int32)) &&& (255 : Int32))), .val (.int ((XT.ushr p1 (24 : Int32)) &&& (255 : Int32))), .val (.int r1), .val (.int r2), .val (.int r3), .val (.int r4), .unset, .unset, .unset] [(.int ((XT.ushr p1 (24 : Int32)) &&& (255 : Int32))), (.int ((XT.ushr p1 (16 : Int32)) &&& (255 : Int32))), (.int ((XT.ushr p0 (2 : Int32)) &&& (3 : Int32))), u145, u143, (.int (1 : Int32)), (.ref a5), (.ref a5)])) (fun t kt => XS.iload X145.here hx rfl (hb hby at_138) rfl kt) ?_
    have f146 := (own_sta_keep f144 K145' all0)
    have f148 := (A5.keep K145')
    refine Go.statW X145 hx hZ hEL C145.1 hS hk hown (hw _ (List.mem_of_getElem? (i := 13) rfl)) (hw _ (List.mem_of_getElem? (i := 14) rfl)) (hw _ (List.mem_of_getElem? (i := 2) rfl)) (hw _ (List.mem_of_getElem? (i := 15) rfl)) (by decide) (argsL := [(.int ((XT.ushr p0 (2 : Int32)) &&& (3 : Int32))), (.int ((XT.ushr p1 (16 : Int32)) &&& (255 : Int32))), (.int ((XT.ushr p1 (24 : Int32)) &&& (255 : Int32)))]) (rest := [u145, u143, (.int (1 : Int32)), (.ref a5), (.ref a5)]) (rmMK l Z a0 hw ((XT.ushr p0 (2 : Int32)) &&& (3 : Int32)) ((XT.ushr p1 (16 : Int32)) &&& (255 : Int32)) ((XT.ushr p1 (24 : Int32)) &&& (255 : Int32)) T145.heap n0 Z145 cs f146 hcs ⟨_, rfl⟩ ⟨_, rfl⟩) eh145 rfl (by rw [hml]; rfl) pd__III_Ljava_lang_String_ rfl (hb hby at_140) 5 (by simp [own_cat_r, own_cat_i, own_cat_n, own_cat_j, own_cat_d, XT.cat1 hu_u145, XT.cat1 hu143]) (by decide) (by decide) (by decide) (by decide) ?_
    intro v147 T147 L147 X147 hQ147 A147 hS
    have hk : T147.heap.size ≤ T147.heap.size := Nat.le_refl _
    have hZ := own_hZ hZ0 hS
    have hown := own_hown hown0 hS
    obtain ⟨u147, hv147, N147', K147', f147_0, f147_1⟩ := hQ147
    subst hv147
    have N147 := Fr.app N145 N147'
    have Z147 : n0 ≤ T147.heap.size := Nat.le_trans Z145 K147'.1
    have eh147 : T147.heap = T147.heap := rfl
    have C147 := CHr.trans C145 A147
    have hu_u147 := StrIs.isRef f147_1
    show Go pP eE below _ (T147.setTop (mkF m 143 #[.val (.int p0), .val (.int p1), .val (.int p2), .val (.int p3), .val (.int p4), .val (.int (p0 &&& (3 : Int32))), .val (.int ((XT.ushr p0 (2 : Int32)) &&& (3 : Int32))), .val (.int ((XT.ushr p0 (4 : Int32)) &&& (3 : Int32))), .val (.int ((XT.ushr p0 (6 : Int32)) &&& (3 : Int32))), .val (.int (p1 &&& (255 : Int32))), .val (.int ((XT.ushr p1 (8 : Int32)) &&& (255 : Int32))), .val (.int ((XT.ushr p1 (16 : Int32)) &&& (255 : Int32))), .val (.int ((XT.ushr p1 (24 : Int32)) &&& (255 : Int32))), .val (.int r1), .val (.int r2), .val (.int r3), .val (.int r4), .unset, .unset, .unset] [u147, u145, u143, (.int (1 : Int32)), (.ref a5), (.ref a5)]))
    refine Go.st (S' := T147.setTop (mkF m 144 #[.val (.int p0), .val (.int p1), .val (.int p2), .val (.int p3), .val (.int p4), .val (.int (p0 &&& (3 : Int32))), .val (.int ((XT.ushr p0 (2 : Int32)) &&& (3 : Int32))), .val (.int ((XT.ushr p0 (4 : Int32)) &&& (3 : Int32))), .val (.int ((XT.ushr p0 (6 : Int32)) &&& (3 : Int32))), .val (.int (p1 &&& (255 : Int32))), .val (.int ((XT.ushr p1 (8 : Int32)) &&& (255 : Int32))), .val (.int ((XT.ushr p1 (16 : Int32)) &&& (255 : Int32))), .val (.int ((XT.ushr p1 (24 : Int32)) &&& (255 : Int32))), .val (.int r1), .val (.int r2), .val (.int r3), .val (.int r4), .unset, .unset, .unset] [.null, u147, u145, u143, (.int (1 : Int32)), (.ref a5), (.ref a5)])) (fun t kt => XS.aconstNull X147.here hx rfl (hb hby at_143) kt) ?_
    have f149 := (f148.keep K147')
    have f150 := ((F5_descendants.keep K145' nin0).keep K147' nin0)
    have f151 := ((F5_kind.keep K145' nin0).keep K147' nin0)
    have f152 := ((F5_namespaceUri.keep K145' nin0).keep K147' nin0)
    have f153 := ((F5_localName.keep K145' nin0).keep K147' nin0)
    have f154 := ((F5_predicates.keep K145' nin0).keep K147' nin0)
    refine Go.init X147 hx hZ rfl hown (hw _ (List.mem_of_getElem? (i := 16) rfl)) (hw _ (List.mem_of_getElem? (i := 17) rfl)) (hw _ (List.mem_of_getElem? (i := 18) rfl)) (hw _ (List.mem_of_getElem? (i := 6) rfl)) (by decide) (b := a5) (argsL := [(.int (1 : Int32)), u143, u145, u147, .null]) (rest := [(.ref a5)]) (rmSI1 l Z a0 hw a5 u143 u145 u147 hu143 hu_u145 hu_u147 T147.heap n0 Z147 f149 (Nat.le_trans Z0 (Nat.le_of_eq g5.symm)) f150 f151 f152 f153 f154) eh147 rfl (by rw [hml]; rfl) pd__ZLcom_example_sunder_sunder_query_Step_Kind_Ljava_lang_String_Ljava_lang_String_Ljava_util_List__V rfl (hb hby at_144) 1 (Nat.le_refl _) (by decide) (by decide) (by decide) (by decide) ?_
    intro v155 T155 L155 X155 hQ155
    have f156 := (CHr.safe A147 f148.lt (CHr.safe A145 A5.lt (Safe.ext E5 C0.1 S5)))
    obtain ⟨hv155, N155', K155', f155_0, f155_1, f155_2⟩ := hQ155
    subst hv155
    have N155 := Fr.app N147 N155'
    have Z155 : n0 ≤ T155.heap.size := Nat.le_trans Z147 K155'.1
    have eh155 : T155.heap = T155.heap := rfl
    have C155 := CHr.trans C147 (CHr.keep K155' (allS f156 all0) C147.1)
    have hk := Nat.le_trans hk K155'.1
    show Go pP eE below _ (T155.setTop (mkF m 147 #[.val (.int p0), .val (.int p1), .val (.int p2), .val (.int p3), .val (.int p4), .val (.int (p0 &&& (3 : Int32))), .val (.int ((XT.ushr p0 (2 : Int32)) &&& (3 : Int32))), .val (.int ((XT.ushr p0 (4 : Int32)) &&& (3 : Int32))), .val (.int ((XT.ushr p0 (6 : Int32)) &&& (3 : Int32))), .val (.int (p1 &&& (255 : Int32))), .val (.int ((XT.ushr p1 (8 : Int32)) &&& (255 : Int32))), .val (.int ((XT.ushr p1 (16 : Int32)) &&& (255 : Int32))), .val (.int ((XT.ushr p1 (24 : Int32)) &&& (255 : Int32))), .val (.int r1), .val (.int r2), .val (.int r3), .val (.int r4), .unset, .unset, .unset] [(.ref a5)]))
    refine Go.st (S' := T155.setTop (mkF m 149 #[.val (.int p0), .val (.int p1), .val (.int p2), .val (.int p3), .val (.int p4), .val (.int (p0 &&& (3 : Int32))), .val (.int ((XT.ushr p0 (2 : Int32)) &&& (3 : Int32))), .val (.int ((XT.ushr p0 (4 : Int32)) &&& (3 : Int32))), .val (.int ((XT.ushr p0 (6 : Int32)) &&& (3 : Int32))), .val (.int (p1 &&& (255 : Int32))), .val (.int ((XT.ushr p1 (8 : Int32)) &&& (255 : Int32))), .val (.int ((XT.ushr p1 (16 : Int32)) &&& (255 : Int32))), .val (.int ((XT.ushr p1 (24 : Int32)) &&& (255 : Int32))), .val (.int r1), .val (.int r2), .val (.int r3), .val (.int r4), .val (.ref a5), .unset, .unset] [])) (fun t kt => XS.astore X155.here hx rfl (hb hby at_147) rfl rfl rfl kt) ?_
    obtain ⟨T157, h157, X157, e157, E157, A157, D157, -, st157⟩ := newO X155 hx hZ hown (hw _ (List.mem_of_getElem? (i := 4) rfl)) (hw _ (List.mem_of_getElem? (i := 5) rfl)) (hw _ (List.mem_of_getElem? (i := 6) rfl)) eh155 (g := (mkF m 149 #[.val (.int p0), .val (.int p1), .val (.int p2), .val (.int p3), .val (.int p4), .val (.int (p0 &&& (3 : Int32))), .val (.int ((XT.ushr p0 (2 : Int32)) &&& (3 : Int32))), .val (.int ((XT.ushr p0 (4 : Int32)) &&& (3 : Int32))), .val (.int ((XT.ushr p0 (6 : Int32)) &&& (3 : Int32))), .val (.int (p1 &&& (255 : Int32))), .val (.int ((XT.ushr p1 (8 : Int32)) &&& (255 : Int32))), .val (.int ((XT.ushr p1 (16 : Int32)) &&& (255 : Int32))), .val (.int ((XT.ushr p1 (24 : Int32)) &&& (255 : Int32))), .val (.int r1), .val (.int r2), .val (.int r3), .val (.int r4), .val (.ref a5), .unset, .unset] [])) rfl (hb hby at_149) (by decide) (by decide)
    obtain ⟨a157, g157⟩ : ∃ z, z = T155.heap.size := ⟨_, rfl⟩
    rw [← g157] at A157 D157 st157
    have Z157 : n0 ≤ h157.size := Nat.le_trans Z155 E157.1
    have S157 : Safe Z own_EL T147.vm T155.heap a157 := Safe.new (Nat.le_of_eq g157.symm)
    have C157 := CHr.trans C155 (CHr.ext E157 C155.1)
    have hk := Nat.le_trans hk E157.1
    have F157_descendants : Fld Z h157 a157 "com/example/sunder/sunder/query/Step" "descendants" "Z" (.int (0 : Int32)) := D157 (Or.inr (hw _ (List.mem_of_getElem? (i := 28) rfl))) (ty := .boolean) (by decide)
    have F157_kind : Fld Z h157 a157 "com/example/sunder/sunder/query/Step" "kind" "Lcom/example/sunder/sunder/query/Step$Kind;" .null := D157 (Or.inr (hw _ (List.mem_of_getElem? (i := 30) rfl))) (ty := (.object "com/example/sunder/sunder/query/Step$Kind")) (by decide)
    have F157_namespaceUri : Fld Z h157 a157 "com/example/sunder/sunder/query/Step" "namespaceUri" "Ljava/lang/String;" .null := D157 (Or.inr (hw _ (List.mem_of_getElem? (i := 32) rfl))) (ty := (.object "java/lang/String")) (by decide)
    have F157_localName : Fld Z h157 a157 "com/example/sunder/sunder/query/Step" "localName" "Ljava/lang/String;" .null := D157 (Or.inr (hw _ (List.mem_of_getElem? (i := 34) rfl))) (ty := (.object "java/lang/String")) (by decide)
    have F157_predicates : Fld Z h157 a157 "com/example/sunder/sunder/query/Step" "predicates" "Ljava/util/List;" .null := D157 (Or.inr (hw _ (List.mem_of_getElem? (i := 36) rfl))) (ty := (.object "java/util/List")) (by decide)
    refine Go.st (S' := T157.setTop (mkF m 152 #[.val (.int p0), .val (.int p1), .val (.int p2), .val (.int p3), .val (.int p4), .val (.int (p0 &&& (3 : Int32))), .val (.int ((XT.ushr p0 (2 : Int32)) &&& (3 : Int32))), .val (.int ((XT.ushr p0 (4 : Int32)) &&& (3 : Int32))), .val (.int ((XT.ushr p0 (6 : Int32)) &&& (3 : Int32))), .val (.int (p1 &&& (255 : Int32))), .val (.int ((XT.ushr p1 (8 : Int32)) &&& (255 : Int32))), .val (.int ((XT.ushr p1 (16 : Int32)) &&& (255 : Int32))), .val (.int ((XT.ushr p1 (24 : Int32)) &&& (255 : Int32))), .val (.int r1), .val (.int r2), .val (.int r3), .val (.int r4), .val (.ref a5), .unset, .unset] [(.ref a157)])) (fun t kt => st157 t kt) ?_
    refine Go.st (S' := T157.setTop (mkF m 153 #[.val (.int p0), .val (.int p1), .val (.int p2), .val (.int p3), .val (.int p4), .val (.int (p0 &&& (3 : Int32))), .val (.int ((XT.ushr p0 (2 : Int32)) &&& (3 : Int32))), .val (.int ((XT.ushr p0 (4 : Int32)) &&& (3 : Int32))), .val (.int ((XT.ushr p0 (6 : Int32)) &&& (3 : Int32))), .val (.int (p1 &&& (255 : Int32))), .val (.int ((XT.ushr p1 (8 : Int32)) &&& (255 : Int32))), .val (.int ((XT.ushr p1 (16 : Int32)) &&& (255 : Int32))), .val (.int ((XT.ushr p1 (24 : Int32)) &&& (255 : Int32))), .val (.int r1), .val (.int r2), .val (.int r3), .val (.int r4), .val (.ref a5), .unset, .unset] [(.ref a157), (.ref a157)])) (fun t kt => XS.dup X157.here hx rfl (hb hby at_152) rfl rfl kt) ?_
    refine Go.st (S' := T157.setTop (mkF m 155 #[.val (.int p0), .val (.int p1), .val (.int p2), .val (.int p3), .val (.int p4), .val (.int (p0 &&& (3 : Int32))), .val (.int ((XT.ushr p0 (2 : Int32)) &&& (3 : Int32))), .val (.int ((XT.ushr p0 (4 : Int32)) &&& (3 : Int32))), .val (.int ((XT.ushr p0 (6 : Int32)) &&& (3 : Int32))), .val (.int (p1 &&& (255 : Int32))), .val (.int ((XT.ushr p1 (8 : Int32)) &&& (255 : Int32))), .val (.int ((XT.ushr p1 (16 : Int32)) &&& (255 : Int32))), .val (.int ((XT.ushr p1 (24 : Int32)) &&& (255 : Int32))), .val (.int r1), .val (.int r2), .val (.int r3), .val (.int r4), .val (.ref a5), .unset, .unset] [(.int p4), (.ref a157), (.ref a157)])) (fun t kt => XS.iload X157.here hx rfl (hb hby at_153) rfl kt) ?_
    refine Go.st (S' := T157.setTop (mkF m 156 #[.val (.int p0), .val (.int p1), .val (.int p2), .val (.int p3), .val (.int p4), .val (.int (p0 &&& (3 : Int32))), .val (.int ((XT.ushr p0 (2 : Int32)) &&& (3 : Int32))), .val (.int ((XT.ushr p0 (4 : Int32)) &&& (3 : Int32))), .val (.int ((XT.ushr p0 (6 : Int32)) &&& (3 : Int32))), .val (.int (p1 &&& (255 : Int32))), .val (.int ((XT.ushr p1 (8 : Int32)) &&& (255 : Int32))), .val (.int ((XT.ushr p1 (16 : Int32)) &&& (255 : Int32))), .val (.int ((XT.ushr p1 (24 : Int32)) &&& (255 : Int32))), .val (.int r1), .val (.int r2), .val (.int r3), .val (.int r4), .val (.ref a5), .unset, .unset] [(.int (5 : Int32)), (.int p4), (.ref a157), (.ref a157)])) (fun t kt => XS.iconst X157.here hx rfl (hb hby at_155) kt) ?_
    refine Go.st (S' := T157.setTop (mkF m 157 #[.val (.int p0), .val (.int p1), .val (.int p2), .val (.int p3), .val (.int p4), .val (.int (p0 &&& (3 : Int32))), .val (.int ((XT.ushr p0 (2 : Int32)) &&& (3 : Int32))), .val (.int ((XT.ushr p0 (4 : Int32)) &&& (3 : Int32))), .val (.int ((XT.ushr p0 (6 : Int32)) &&& (3 : Int32))), .val (.int (p1 &&& (255 : Int32))), .val (.int ((XT.ushr p1 (8 : Int32)) &&& (255 : Int32))), .val (.int ((XT.ushr p1 (16 : Int32)) &&& (255 : Int32))), .val (.int ((XT.ushr p1 (24 : Int32)) &&& (255 : Int32))), .val (.int r1), .val (.int r2), .val (.int r3), .val (.int r4), .val (.ref a5), .unset, .unset] [(.int (XT.ushr p4 (5 : Int32))), (.ref a157), (.ref a157)])) (fun t kt => XT.iushr X157.here hx rfl (hb hby at_156) rfl kt) ?_
    refine Go.st (S' := T157.setTop (mkF m 158 #[.val (.int p0), .val (.int p1), .val (.int p2), .val (.int p3), .val (.int p4), .val (.int (p0 &&& (3 : Int32))), .val (.int ((XT.ushr p0 (2 : Int32)) &&& (3 : Int32))), .val (.int ((XT.ushr p0 (4 : Int32)) &&& (3 : Int32))), .val (.int ((XT.ushr p0 (6 : Int32)) &&& (3 : Int32))), .val (.int (p1 &&& (255 : Int32))), .val (.int ((XT.ushr p1 (8 : Int32)) &&& (255 : Int32))), .val (.int ((XT.ushr p1 (16 : Int32)) &&& (255 : Int32))), .val (.int ((XT.ushr p1 (24 : Int32)) &&& (255 : Int32))), .val (.int r1), .val (.int r2), .val (.int r3), .val (.int r4), .val (.ref a5), .unset, .unset] [(.int (1 : Int32)), (.int (XT.ushr p4 (5 : Int32))), (.ref a157), (.ref a157)])) (fun t kt => XS.iconst X157.here hx rfl (hb hby at_157) kt) ?_
    refine Go.st (S' := T157.setTop (mkF m 159 #[.val (.int p0), .val (.int p1), .val (.int p2), .val (.int p3), .val (.int p4), .val (.int (p0 &&& (3 : Int32))), .val (.int ((XT.ushr p0 (2 : Int32)) &&& (3 : Int32))), .val (.int ((XT.ushr p0 (4 : Int32)) &&& (3 : Int32))), .val (.int ((XT.ushr p0 (6 : Int32)) &&& (3 : Int32))), .val (.int (p1 &&& (255 : Int32))), .val (.int ((XT.ushr p1 (8 : Int32)) &&& (255 : Int32))), .val (.int ((XT.ushr p1 (16 : Int32)) &&& (255 : Int32))), .val (.int ((XT.ushr p1 (24 : Int32)) &&& (255 : Int32))), .val (.int r1), .val (.int r2), .val (.int r3), .val (.int r4), .val (.ref a5), .unset, .unset] [(.int ((XT.ushr p4 (5 : Int32)) &&& (1 : Int32))), (.ref a157), (.ref a157)])) (fun t kt => XS.iand X157.here hx rfl (hb hby at_158) rfl kt) ?_
    by_cases hc159_158 : ((XT.ushr p4 (5 : Int32)) &&& (1 : Int32)) = 0
    · refine Go.st (S' := T157.setTop (mkF m 166 #[.val (.int p0), .val (.int p1), .val (.int p2), .val (.int p3), .val (.int p4), .val (.int (p0 &&& (3 : Int32))), .val (.int ((XT.ushr p0 (2 : Int32)) &&& (3 : Int32))), .val (.int ((XT.ushr p0 (4 : Int32)) &&& (3 : Int32))), .val (.int ((XT.ushr p0 (6 : Int32)) &&& (3 : Int32))), .val (.int (p1 &&& (255 : Int32))), .val (.int ((XT.ushr p1 (8 : Int32)) &&& (255 : Int32))), .val (.int ((XT.ushr p1 (16 : Int32)) &&& (255 : Int32))), .val (.int ((XT.ushr p1 (24 : Int32)) &&& (255 : Int32))), .val (.int r1), .val (.int r2), .val (.int r3), .val (.int r4), .val (.ref a5), .unset, .unset] [(.ref a157), (.ref a157)])) (fun t kt => XS.ifYes X157.here hx rfl (pc0 := 159) (pc' := 166) rfl (hb hby at_159) rfl (XT.i0_eq_t hc159_158) (by decide) (by decide) kt) ?_
      refine Go.st (S' := T157.setTop (mkF m 167 #[.val (.int p0), .val (.int p1), .val (.int p2), .val (.int p3), .val (.int p4), .val (.int (p0 &&& (3 : Int32))), .val (.int ((XT.ushr p0 (2 : Int32)) &&& (3 : Int32))), .val (.int ((XT.ushr p0 (4 : Int32)) &&& (3 : Int32))), .val (.int ((XT.ushr p0 (6 : Int32)) &&& (3 : Int32))), .val (.int (p1 &&& (255 : Int32))), .val (.int ((XT.ushr p1 (8 : Int32)) &&& (255 : Int32))), .val (.int ((XT.ushr p1 (16 : Int32)) &&& (255 : Int32))), .val (.int ((XT.ushr p1 (24 : Int32)) &&& (255 : Int32))), .val (.int r1), .val (.int r2), .val (.int r3), .val (.int r4), .val (.ref a5), .unset, .unset] [(.int (0 : Int32)), (.ref a157), (.ref a157)])) (fun t kt => XS.iconst X157.here hx rfl (hb hby at_166) kt) ?_
      refine Go.st (S' := T157.setTop (mkF m 169 #[.val (.int p0), .val (.int p1), .val (.int p2), .val (.int p3), .val (.int p4), .val (.int (p0 &&& (3 : Int32))), .val (.int ((XT.ushr p0 (2 : Int32)) &&& (3 : Int32))), .val (.int ((XT.ushr p0 (4 : Int32)) &&& (3 : Int32))), .val (.int ((XT.ushr p0 (6 : Int32)) &&& (3 : Int32))), .val (.int (p1 &&& (255 : Int32))), .val (.int ((XT.ushr p1 (8 : Int32)) &&& (255 : Int32))), .val (.int ((XT.ushr p1 (16 : Int32)) &&& (255 : Int32))), .val (.int ((XT.ushr p1 (24 : Int32)) &&& (255 : Int32))), .val (.int r1), .val (.int r2), .val (.int r3), .val (.int r4), .val (.ref a5), .unset, .unset] [(.int p4), (.int (0 : Int32)), (.ref a157), (.ref a157)])) (fun t kt => XS.iload X157.here hx rfl (hb hby at_167) rfl kt) ?_
      refine Go.st (S' := T157.setTop (mkF m 170 #[.val (.int p0), .val (.int p1), .val (.int p2), .val (.int p3), .val (.int p4), .val (.int (p0 &&& (3 : Int32))), .val (.int ((XT.ushr p0 (2 : Int32)) &&& (3 : Int32))), .val (.int ((XT.ushr p0 (4 : Int32)) &&& (3 : Int32))), .val (.int ((XT.ushr p0 (6 : Int32)) &&& (3 : Int32))), .val (.int (p1 &&& (255 : Int32))), .val (.int ((XT.ushr p1 (8 : Int32)) &&& (255 : Int32))), .val (.int ((XT.ushr p1 (16 : Int32)) &&& (255 : Int32))), .val (.int ((XT.ushr p1 (24 : Int32)) &&& (255 : Int32))), .val (.int r1), .val (.int r2), .val (.int r3), .val (.int r4), .val (.ref a5), .unset, .unset] [(.int (2 : Int32)), (.int p4), (.int (0 : Int32)), (.ref a157), (.ref a157)])) (fun t kt => XS.iconst X157.here hx rfl (hb hby at_169) kt) ?_
      refine Go.st (S' := T157.setTop (mkF m 171 #[.val (.int p0), .val (.int p1), .val (.int p2), .val (.int p3), .val (.int p4), .val (.int (p0 &&& (3 : Int32))), .val (.int ((XT.ushr p0 (2 : Int32)) &&& (3 : Int32))), .val (.int ((XT.ushr p0 (4 : Int32)) &&& (3 : Int32))), .val (.int ((XT.ushr p0 (6 : Int32)) &&& (3 : Int32))), .val (.int (p1 &&& (255 : Int32))), .val (.int ((XT.ushr p1 (8 : Int32)) &&& (255 : Int32))), .val (.int ((XT.ushr p1 (16 : Int32)) &&& (255 : Int32))), .val (.int ((XT.ushr p1 (24 : Int32)) &&& (255 : Int32))), .val (.int r1), .val (.int r2), .val (.int r3), .val (.int r4), .val (.ref a5), .unset, .unset] [(.int (XT.ushr p4 (2 : Int32))), (.int (0 : Int32)), (.ref a157), (.ref a157)])) (fun t kt => XT.iushr X157.here hx rfl (hb hby at_170) rfl kt) ?_
      have f159 := ((own_sta_keep (own_sta_keep (own_sta_keep f139 K145' all0) K147' all0) K155' (allS (own_obj_exa f149) all0)).ext E157)
      have f160 := ((own_sta_keep (own_sta_keep (own_sta_keep f140 K145' all0) K147' all0) K155' (allS (own_obj_exa f149) all0)).ext E157)
      have f161 := ((own_sta_keep (own_sta_keep (own_sta_keep f141 K145' all0) K147' all0) K155' (allS (own_obj_exa f149) all0)).ext E157)
      have f162 := ((own_sta_keep (own_sta_keep (own_sta_keep f142 K145' all0) K147' all0) K155' (allS (own_obj_exa f149) all0)).ext E157)
      refine Go.stat X157 hx hZ hown (hw _ (List.mem_of_getElem? (i := 7) rfl)) (hw _ (List.mem_of_getElem? (i := 8) rfl)) (hw _ (List.mem_of_getElem? (i := 2) rfl)) (hw _ (List.mem_of_getElem? (i := 9) rfl)) (by decide) (argsL := [(.int (XT.ushr p4 (2 : Int32)))]) (rest := [(.int (0 : Int32)), (.ref a157), (.ref a157)]) (rmKN l Z a0 hw (XT.ushr p4 (2 : Int32)) h157 n0 Z157 k_ELEMENT k_ATTRIBUTE k_TEXT k_SELF f159 f160 f161 f162) e157 rfl (by rw [hml]; rfl) pd__I_Lcom_example_sunder_sunder_query_Step_Kind_ rfl (hb hby at_171) 3 (Nat.le_refl _) (by decide) (by decide) (by decide) (by decide) ?_
      intro v163 T163 L163 X163 hQ163
      obtain ⟨u163, hv163, N163', e163, hu163⟩ := hQ163
      subst hv163
      have N163 := Fr.app N155 N163'
      show Go pP eE below _ (T163.setTop (mkF m 174 #[.val (.int p0), .val (.int p1), .val (.int p2), .val (.int p3), .val (.int p4), .val (.int (p0 &&& (3 : Int32))), .val (.int ((XT.ushr p0 (2 : Int32)) &&& (3 : Int32))), .val (.int ((XT.ushr p0 (4 : Int32)) &&& (3 : Int32))), .val (.int ((XT.ushr p0 (6 : Int32)) &&& (3 : Int32))), .val (.int (p1 &&& (255 : Int32))), .val (.int ((XT.ushr p1 (8 : Int32)) &&& (255 : Int32))), .val (.int ((XT.ushr p1 (16 : Int32)) &&& (255 : Int32))), .val (.int ((XT.ushr p1 (24 : Int32)) &&& (255 : Int32))), .val (.int r1), .val (.int r2), .val (.int r3), .val (.int r4), .val (.ref a5), .unset, .unset] [u163, (.int (0 : Int32)), (.ref a157), (.ref a157)]))
      refine Go.st (S' := T163.setTop (mkF m 176 #[.val (.int p0), .val (.int p1), .val (.int p2), .val (.int p3), .val (.int p4), .val (.int (p0 &&& (3 : Int32))), .val (.int ((XT.ushr p0 (2 : Int32)) &&& (3 : Int32))), .val (.int ((XT.ushr p0 (4 : Int32)) &&& (3 : Int32))), .val (.int ((XT.ushr p0 (6 : Int32)) &&& (3 : Int32))), .val (.int (p1 &&& (255 : Int32))), .val (.int ((XT.ushr p1 (8 : Int32)) &&& (255 : Int32))), .val (.int ((XT.ushr p1 (16 : Int32)) &&& (255 : Int32))), .val (.int ((XT.ushr p1 (24 : Int32)) &&& (255 : Int32))), .val (.int r1), .val (.int r2), .val (.int r3), .val (.int r4), .val (.ref a5), .unset, .unset] [(.int ((XT.ushr p0 (4 : Int32)) &&& (3 : Int32))), u163, (.int (0 : Int32)), (.ref a157), (.ref a157)])) (fun t kt => XS.iload X163.here hx rfl (hb hby at_174) rfl kt) ?_
      refine Go.st (S' := T163.setTop (mkF m 178 #[.val (.int p0), .val (.int p1), .val (.int p2), .val (.int p3), .val (.int p4), .val (.int (p0 &&& (3 : Int32))), .val (.int ((XT.ushr p0 (2 : Int32)) &&& (3 : Int32))), .val (.int ((XT.ushr p0 (4 : Int32)) &&& (3 : Int32))), .val (.int ((XT.ushr p0 (6 : Int32)) &&& (3 : Int32))), .val (.int (p1 &&& (255 : Int32))), .val (.int ((XT.ushr p1 (8 : Int32)) &&& (255 : Int32))), .val (.int ((XT.ushr p1 (16 : Int32)) &&& (255 : Int32))), .val (.int ((XT.ushr p1 (24 : Int32)) &&& (255 : Int32))), .val (.int r1), .val (.int r2), .val (.int r3), .val (.int r4), .val (.ref a5), .unset, .unset] [(.int r1), (.int ((XT.ushr p0 (4 : Int32)) &&& (3 : Int32))), u163, (.int (0 : Int32)), (.ref a157), (.ref a157)])) (fun t kt => XS.iload X163.here hx rfl (hb hby at_176) rfl kt) ?_
      refine Go.st (S' := T163.setTop (mkF m 180 #[.val (.int p0), .val (.int p1), .val (.int p2), .val (.int p3), .val (.int p4), .val (.int (p0 &&& (3 : Int32))), .val (.int ((XT.ushr p0 (2 : Int32)) &&& (3 : Int32))), .val (.int ((XT.ushr p0 (4 : Int32)) &&& (3 : Int32))), .val (.int ((XT.ushr p0 (6 : Int32)) &&& (3 : Int32))), .val (.int (p1 &&& (255 : Int32))), .val (.int ((XT.ushr p1 (8 : Int32)) &&& (255 : Int32))), .val (.int ((XT.ushr p1 (16 : Int32)) &&& (255 : Int32))), .val (.int ((XT.ushr p1 (24 : Int32)) &&& (255 : Int32))), .val (.int r1), .val (.int r2), .val (.int r3), .val (.int r4), .val (.ref a5), .unset, .unset] [(.int r2), (.int r1), (.int ((XT.ushr p0 (4 : Int32)) &&& (3 : Int32))), u163, (.int (0 : Int32)), (.ref a157), (.ref a157)])) (fun t kt => XS.iload X163.here hx rfl (hb hby at_178) rfl kt) ?_
      have f164 := ((own_sta_keep (own_sta_keep f146 K147' all0) K155' (allS (own_obj_exa f149) all0)).ext E157)
      have f166 := (f155_0.ext E157)
      refine Go.statW X163 hx hZ hEL C157.1 hS hk hown (hw _ (List.mem_of_getElem? (i := 13) rfl)) (hw _ (List.mem_of_getElem? (i := 14) rfl)) (hw _ (List.mem_of_getElem? (i := 2) rfl)) (hw _ (List.mem_of_getElem? (i := 15) rfl)) (by decide) (argsL := [(.int ((XT.ushr p0 (4 : Int32)) &&& (3 : Int32))), (.int r1), (.int r2)]) (rest := [u163, (.int (0 : Int32)), (.ref a157), (.ref a157)]) (rmMK l Z a0 hw ((XT.ushr p0 (4 : Int32)) &&& (3 : Int32)) r1 r2 h157 n0 Z157 cs f164 hcs lo1 lo2) e163 rfl (by rw [hml]; rfl) pd__III_Ljava_lang_String_ rfl (hb hby at_180) 4 (by simp [own_cat_r, own_cat_i, own_cat_n, own_cat_j, own_cat_d, XT.cat1 hu163]) (by decide) (by decide) (by decide) (by decide) ?_
      intro v165 T165 L165 X165 hQ165 A165 hS
      have hk : T165.heap.size ≤ T165.heap.size := Nat.le_refl _
      have hZ := own_hZ hZ0 hS
      have hown := own_hown hown0 hS
      have f167 := ((StrIs.keep (StrIs.keep f145_1 K147' all0) K155' (allS (own_nostr f149 (by decide) (hw _ (List.mem_of_getElem? (i := 5) rfl))) all0)).ext E157)
      have f168 := ((StrIs.keep f147_1 K155' (allS (own_nostr f149 (by decide) (hw _ (List.mem_of_getElem? (i := 5) rfl))) all0)).ext E157)
      obtain ⟨u165, hv165, N165', K165', f165_0, f165_1⟩ := hQ165
      subst hv165
      have N165 := Fr.app N163 N165'
      have Z165 : n0 ≤ T165.heap.size := Nat.le_trans Z157 K165'.1
      have eh165 : T165.heap = T165.heap := rfl
      have C165 := CHr.trans C157 A165
      have hu_u165 := StrIs.isRef f165_1
      show Go pP eE below _ (T165.setTop (mkF m 183 #[.val (.int p0), .val (.int p1), .val (.int p2), .val (.int p3), .val (.int p4), .val (.int (p0 &&& (3 : Int32))), .val (.int ((XT.ushr p0 (2 : Int32)) &&& (3 : Int32))), .val (.int ((XT.ushr p0 (4 : Int32)) &&& (3 : Int32))), .val (.int ((XT.ushr p0 (6 : Int32)) &&& (3 : Int32))), .val (.int (p1 &&& (255 : Int32))), .val (.int ((XT.ushr p1 (8 : Int32)) &&& (255 : Int32))), .val (.int ((XT.ushr p1 (16 : Int32)) &&& (255 : Int32))), .val (.int ((XT.ushr p1 (24 : Int32)) &&& (255 : Int32))), .val (.int r1), .val (.int r2), .val (.int r3), .val (.int r4), .val (.ref a5), .unset, .unset] [u165, u163, (.int (0 : Int32)), (.ref a157), (.ref a157)]))
      refine Go.st (S' := T165.setTop (mkF m 185 #[.val (.int p0), .val (.int p1), .val (.int p2), .val (.int p3), .val (.int p4), .val (.int (p0 &&& (3 : Int32))), .val (.int ((XT.ushr p0 (2 : Int32)) &&& (3 : Int32))), .val (.int ((XT.ushr p0 (4 : Int32)) &&& (3 : Int32))), .val (.int ((XT.ushr p0 (6 : Int32)) &&& (3 : Int32))), .val (.int (p1 &&& (255 : Int32))), .val (.int ((XT.ushr p1 (8 : Int32)) &&& (255 : Int32))), .val (.int ((XT.ushr p1 (16 : Int32)) &&& (255 : Int32))), .val (.int ((XT.ushr p1 (24 : Int32)) &&& (255 : Int32))), .val (.int r1), .val (.int r2), .val (.int r3), .val (.int r4), .val (.ref a5), .unset, .unset] [(.int ((XT.ushr p0 (6 : Int32)) &&& (3 : Int32))), u165, u163, (.int (0 : Int32)), (.ref a157), (.ref a157)])) (fun t kt => XS.iload X165.here hx rfl (hb hby at_183) rfl kt) ?_
      refine Go.st (S' := T165.setTop (mkF m 187 #[.val (.int p0), .val (.int p1), .val (.int p2), .val (.int p3), .val (.int p4), .val (.int (p0 &&& (3 : Int32))), .val (.int ((XT.ushr p0 (2 : Int32)) &&& (3 : Int32))), .val (.int ((XT.ushr p0 (4 : Int32)) &&& (3 : Int32))), .val (.int ((XT.ushr p0 (6 : Int32)) &&& (3 : Int32))), .val (.int (p1 &&& (255 : Int32))), .val (.int ((XT.ushr p1 (8 : Int32)) &&& (255 : Int32))), .val (.int ((XT.ushr p1 (16 : Int32)) &&& (255 : Int32))), .val (.int ((XT.ushr p1 (24 : Int32)) &&& (255 : Int32))), .val (.int r1), .val (.int r2), .val (.int r3), .val (.int r4), .val (.ref a5), .unset, .unset] [(.int r3), (.int ((XT.ushr p0 (6 : Int32)) &&& (3 : Int32))), u165, u163, (.int (0 : Int32)), (.ref a157), (.ref a157)])) (fun t kt => XS.iload X165.here hx rfl (hb hby at_185) rfl kt) ?_
      refine Go.st (S' := T165.setTop (mkF m 189 #[.val (.int p0), .val (.int p1), .val (.int p2), .val (.int p3), .val (.int p4), .val (.int (p0 &&& (3 : Int32))), .val (.int ((XT.ushr p0 (2 : Int32)) &&& (3 : Int32))), .val (.int ((XT.ushr p0 (4 : Int32)) &&& (3 : Int32))), .val (.int ((XT.ushr p0 (6 : Int32)) &&& (3 : Int32))), .val (.int (p1 &&& (255 : Int32))), .val (.int ((XT.ushr p1 (8 : Int32)) &&& (255 : Int32))), .val (.int ((XT.ushr p1 (16 : Int32)) &&& (255 : Int32))), .val (.int ((XT.ushr p1 (24 : Int32)) &&& (255 : Int32))), .val (.int r1), .val (.int r2), .val (.int r3), .val (.int r4), .val (.ref a5), .unset, .unset] [(.int r4), (.int r3), (.int ((XT.ushr p0 (6 : Int32)) &&& (3 : Int32))), u165, u163, (.int (0 : Int32)), (.ref a157), (.ref a157)])) (fun t kt => XS.iload X165.here hx rfl (hb hby at_187) rfl kt) ?_
      have f169 := (own_sta_keep f164 K165' all0)
      have f171 := (f166.keep K165')
      have f172 := (A157.keep K165')
      refine Go.statW X165 hx hZ hEL C165.1 hS hk hown (hw _ (List.mem_of_getElem? (i := 13) rfl)) (hw _ (List.mem_of_getElem? (i := 14) rfl)) (hw _ (List.mem_of_getElem? (i := 2) rfl)) (hw _ (List.mem_of_getElem? (i := 15) rfl)) (by decide) (argsL := [(.int ((XT.ushr p0 (6 : Int32)) &&& (3 : Int32))), (.int r3), (.int r4)]) (rest := [u165, u163, (.int (0 : Int32)), (.ref a157), (.ref a157)]) (rmMK l Z a0 hw ((XT.ushr p0 (6 : Int32)) &&& (3 : Int32)) r3 r4 T165.heap n0 Z165 cs f169 hcs lo3 lo4) eh165 rfl (by rw [hml]; rfl) pd__III_Ljava_lang_String_ rfl (hb hby at_189) 5 (by simp [own_cat_r, own_cat_i, own_cat_n, own_cat_j, own_cat_d, XT.cat1 hu_u165, XT.cat1 hu163]) (by decide) (by decide) (by decide) (by decide) ?_
      intro v170 T170 L170 X170 hQ170 A170 hS
      have hk : T170.heap.size ≤ T170.heap.size := Nat.le_refl _
      have hZ := own_hZ hZ0 hS
      have hown := own_hown hown0 hS
      have f173 := (StrIs.keep f167 K165' all0)
      have f174 := (StrIs.keep f168 K165' all0)
      obtain ⟨u170, hv170, N170', K170', f170_0, f170_1⟩ := hQ170
      subst hv170
      have N170 := Fr.app N165 N170'
      have Z170 : n0 ≤ T170.heap.size := Nat.le_trans Z165 K170'.1
      have eh170 : T170.heap = T170.heap := rfl
      have C170 := CHr.trans C165 A170
      have hu_u170 := StrIs.isRef f170_1
      show Go pP eE below _ (T170.setTop (mkF m 192 #[.val (.int p0), .val (.int p1), .val (.int p2), .val (.int p3), .val (.int p4), .val (.int (p0 &&& (3 : Int32))), .val (.int ((XT.ushr p0 (2 : Int32)) &&& (3 : Int32))), .val (.int ((XT.ushr p0 (4 : Int32)) &&& (3 : Int32))), .val (.int ((XT.ushr p0 (6 : Int32)) &&& (3 : Int32))), .val (.int (p1 &&& (255 : Int32))), .val (.int ((XT.ushr p1 (8 : Int32)) &&& (255 : Int32))), .val (.int ((XT.ushr p1 (16 : Int32)) &&& (255 : Int32))), .val (.int ((XT.ushr p1 (24 : Int32)) &&& (255 : Int32))), .val (.int r1), .val (.int r2), .val (.int r3), .val (.int r4), .val (.ref a5), .unset, .unset] [u170, u165, u163, (.int (0 : Int32)), (.ref a157), (.ref a157)]))
      refine Go.st (S' := T170.setTop (mkF m 193 #[.val (.int p0), .val (.int p1), .val (.int p2), .val (.int p3), .val (.int p4), .val (.int (p0 &&& (3 : Int32))), .val (.int ((XT.ushr p0 (2 : Int32)) &&& (3 : Int32))), .val (.int ((XT.ushr p0 (4 : Int32)) &&& (3 : Int32))), .val (.int ((XT.ushr p0 (6 : Int32)) &&& (3 : Int32))), .val (.int (p1 &&& (255 : Int32))), .val (.int ((XT.ushr p1 (8 : Int32)) &&& (255 : Int32))), .val (.int ((XT.ushr p1 (16 : Int32)) &&& (255 : Int32))), .val (.int ((XT.ushr p1 (24 : Int32)) &&& (255 : Int32))), .val (.int r1), .val (.int r2), .val (.int r3), .val (.int r4), .val (.ref a5), .unset, .unset] [.null, u170, u165, u163, (.int (0 : Int32)), (.ref a157), (.ref a157)])) (fun t kt => XS.aconstNull X170.here hx rfl (hb hby at_192) kt) ?_
      have f175 := (f172.keep K170')
      have f176 := ((F157_descendants.keep K165' nin0).keep K170' nin0)
      have f177 := ((F157_kind.keep K165' nin0).keep K170' nin0)
      have f178 := ((F157_namespaceUri.keep K165' nin0).keep K170' nin0)
      have f179 := ((F157_localName.keep K165' nin0).keep K170' nin0)
      have f180 := ((F157_predicates.keep K165' nin0).keep K170' nin0)
      refine Go.init X170 hx hZ rfl hown (hw _ (List.mem_of_getElem? (i := 16) rfl)) (hw _ (List.mem_of_getElem? (i := 17) rfl)) (hw _ (List.mem_of_getElem? (i := 18) rfl)) (hw _ (List.mem_of_getElem? (i := 6) rfl)) (by decide) (b := a157) (argsL := [(.int (0 : Int32)), u163, u165, u170, .null]) (rest := [(.ref a157)]) (rmSI0 l Z a0 hw a157 u163 u165 u170 hu163 hu_u165 hu_u170 T170.heap n0 Z170 f175 (Nat.le_trans Z155 (Nat.le_of_eq g157.symm)) f176 f177 f178 f179 f180) eh170 rfl (by rw [hml]; rfl) pd__ZLcom_example_sunder_sunder_query_Step_Kind_Ljava_lang_String_Ljava_lang_String_Ljava_util_List__V rfl (hb hby at_193) 1 (Nat.le_refl _) (by decide) (by decide) (by decide) (by decide) ?_
      intro v181 T181 L181 X181 hQ181
      have f182 := (f171.keep K170')
      have f183 := (CHr.safe A170 f172.lt (CHr.safe A165 A157.lt (Safe.ext E157 C155.1 S157)))
      obtain ⟨hv181, N181', K181', f181_0, f181_1, f181_2⟩ := hQ181
      subst hv181
      have N181 := Fr.app N170 N181'
      have Z181 : n0 ≤ T181.heap.size := Nat.le_trans Z170 K181'.1
      have eh181 : T181.heap = T181.heap := rfl
      have C181 := CHr.trans C170 (CHr.keep K181' (allS f183 all0) C170.1)
      have hk := Nat.le_trans hk K181'.1
      show Go pP eE below _ (T181.setTop (mkF m 196 #[.val (.int p0), .val (.int p1), .val (.int p2), .val (.int p3), .val (.int p4), .val (.int (p0 &&& (3 : Int32))), .val (.int ((XT.ushr p0 (2 : Int32)) &&& (3 : Int32))), .val (.int ((XT.ushr p0 (4 : Int32)) &&& (3 : Int32))), .val (.int ((XT.ushr p0 (6 : Int32)) &&& (3 : Int32))), .val (.int (p1 &&& (255 : Int32))), .val (.int ((XT.ushr p1 (8 : Int32)) &&& (255 : Int32))), .val (.int ((XT.ushr p1 (16 : Int32)) &&& (255 : Int32))), .val (.int ((XT.ushr p1 (24 : Int32)) &&& (255 : Int32))), .val (.int r1), .val (.int r2), .val (.int r3), .val (.int r4), .val (.ref a5), .unset, .unset] [(.ref a157)]))
      refine Go.st (S' := T181.setTop (mkF m 198 #[.val (.int p0), .val (.int p1), .val (.int p2), .val (.int p3), .val (.int p4), .val (.int (p0 &&& (3 : Int32))), .val (.int ((XT.ushr p0 (2 : Int32)) &&& (3 : Int32))), .val (.int ((XT.ushr p0 (4 : Int32)) &&& (3 : Int32))), .val (.int ((XT.ushr p0 (6 : Int32)) &&& (3 : Int32))), .val (.int (p1 &&& (255 : Int32))), .val (.int ((XT.ushr p1 (8 : Int32)) &&& (255 : Int32))), .val (.int ((XT.ushr p1 (16 : Int32)) &&& (255 : Int32))), .val (.int ((XT.ushr p1 (24 : Int32)) &&& (255 : Int32))), .val (.int r1), .val (.int r2), .val (.int r3), .val (.int r4), .val (.ref a5), .val (.ref a157), .unset] [])) (fun t kt => XS.astore X181.here hx rfl (hb hby at_196) rfl rfl rfl kt) ?_
      refine Go.st (S' := T181.setTop (mkF m 200 #[.val (.int p0), .val (.int p1), .val (.int p2), .val (.int p3), .val (.int p4), .val (.int (p0 &&& (3 : Int32))), .val (.int ((XT.ushr p0 (2 : Int32)) &&& (3 : Int32))), .val (.int ((XT.ushr p0 (4 : Int32)) &&& (3 : Int32))), .val (.int ((XT.ushr p0 (6 : Int32)) &&& (3 : Int32))), .val (.int (p1 &&& (255 : Int32))), .val (.int ((XT.ushr p1 (8 : Int32)) &&& (255 : Int32))), .val (.int ((XT.ushr p1 (16 : Int32)) &&& (255 : Int32))), .val (.int ((XT.ushr p1 (24 : Int32)) &&& (255 : Int32))), .val (.int r1), .val (.int r2), .val (.int r3), .val (.int r4), .val (.ref a5), .val (.ref a157), .unset] [(.int (p0 &&& (3 : Int32)))])) (fun t kt => XS.iload X181.here hx rfl (hb hby at_198) rfl kt) ?_
      refine Go.st (S' := T181.setTop (mkF m 202 #[.val (.int p0), .val (.int p1), .val (.int p2), .val (.int p3), .val (.int p4), .val (.int (p0 &&& (3 : Int32))), .val (.int ((XT.ushr p0 (2 : Int32)) &&& (3 : Int32))), .val (.int ((XT.ushr p0 (4 : Int32)) &&& (3 : Int32))), .val (.int ((XT.ushr p0 (6 : Int32)) &&& (3 : Int32))), .val (.int (p1 &&& (255 : Int32))), .val (.int ((XT.ushr p1 (8 : Int32)) &&& (255 : Int32))), .val (.int ((XT.ushr p1 (16 : Int32)) &&& (255 : Int32))), .val (.int ((XT.ushr p1 (24 : Int32)) &&& (255 : Int32))), .val (.int r1), .val (.int r2), .val (.int r3), .val (.int r4), .val (.ref a5), .val (.ref a157), .unset] [(.int (p1 &&& (255 : Int32))), (.int (p0 &&& (3 : Int32)))])) (fun t kt => XS.iload X181.here hx rfl (hb hby at_200) rfl kt) ?_
      refine Go.st (S' := T181.setTop (mkF m 204 #[.val (.int p0), .val (.int p1), .val (.int p2), .val (.int p3), .val (.int p4), .val (.int (p0 &&& (3 : Int32))), .val (.int ((XT.ushr p0 (2 : Int32)) &&& (3 : Int32))), .val (.int ((XT.ushr p0 (4 : Int32)) &&& (3 : Int32))), .val (.int ((XT.ushr p0 (6 : Int32)) &&& (3 : Int32))), .val (.int (p1 &&& (255 : Int32))), .val (.int ((XT.ushr p1 (8 : Int32)) &&& (255 : Int32))), .val (.int ((XT.ushr p1 (16 : Int32)) &&& (255 : Int32))), .val (.int ((XT.ushr p1 (24 : Int32)) &&& (255 : Int32))), .val (.int r1), .val (.int r2), .val (.int r3), .val (.int r4), .val (.ref a5), .val (.ref a157), .unset] [(.int ((XT.ushr p1 (8 : Int32)) &&& (255 : Int32))), (.int (p1 &&& (255 : Int32))), (.int (p0 &&& (3 : Int32)))])) (fun t kt => XS.iload X181.here hx rfl (hb hby at_202) rfl kt) ?_
      refine Go.st (S' := T181.setTop (mkF m 206 #[.val (.int p0), .val (.int p1), .val (.int p2), .val (.int p3), .val (.int p4), .val (.int (p0 &&& (3 : Int32))), .val (.int ((XT.ushr p0 (2 : Int32)) &&& (3 : Int32))), .val (.int ((XT.ushr p0 (4 : Int32)) &&& (3 : Int32))), .val (.int ((XT.ushr p0 (6 : Int32)) &&& (3 : Int32))), .val (.int (p1 &&& (255 : Int32))), .val (.int ((XT.ushr p1 (8 : Int32)) &&& (255 : Int32))), .val (.int ((XT.ushr p1 (16 : Int32)) &&& (255 : Int32))), .val (.int ((XT.ushr p1 (24 : Int32)) &&& (255 : Int32))), .val (.int r1), .val (.int r2), .val (.int r3), .val (.int r4), .val (.ref a5), .val (.ref a157), .unset] [(.int ((XT.ushr p0 (4 : Int32)) &&& (3 : Int32))), (.int ((XT.ushr p1 (8 : Int32)) &&& (255 : Int32))), (.int (p1 &&& (255 : Int32))), (.int (p0 &&& (3 : Int32)))])) (fun t kt => XS.iload X181.here hx rfl (hb hby at_204) rfl kt) ?_
      refine Go.st (S' := T181.setTop (mkF m 208 #[.val (.int p0), .val (.int p1), .val (.int p2), .val (.int p3), .val (.int p4), .val (.int (p0 &&& (3 : Int32))), .val (.int ((XT.ushr p0 (2 : Int32)) &&& (3 : Int32))), .val (.int ((XT.ushr p0 (4 : Int32)) &&& (3 : Int32))), .val (.int ((XT.ushr p0 (6 : Int32)) &&& (3 : Int32))), .val (.int (p1 &&& (255 : Int32))), .val (.int ((XT.ushr p1 (8 : Int32)) &&& (255 : Int32))), .val (.int ((XT.ushr p1 (16 : Int32)) &&& (255 : Int32))), .val (.int ((XT.ushr p1 (24 : Int32)) &&& (255 : Int32))), .val (.int r1), .val (.int r2), .val (.int r3), .val (.int r4), .val (.ref a5), .val (.ref a157), .unset] [(.int r1), (.int ((XT.ushr p0 (4 : Int32)) &&& (3 : Int32))), (.int ((XT.ushr p1 (8 : Int32)) &&& (255 : Int32))), (.int (p1 &&& (255 : Int32))), (.int (p0 &&& (3 : Int32)))])) (fun t kt => XS.iload X181.here hx rfl (hb hby at_206) rfl kt) ?_
      refine Go.st (S' := T181.setTop (mkF m 210 #[.val (.int p0), .val (.int p1), .val (.int p2), .val (.int p3), .val (.int p4), .val (.int (p0 &&& (3 : Int32))), .val (.int ((XT.ushr p0 (2 : Int32)) &&& (3 : Int32))), .val (.int ((XT.ushr p0 (4 : Int32)) &&& (3 : Int32))), .val (.int ((XT.ushr p0 (6 : Int32)) &&& (3 : Int32))), .val (.int (p1 &&& (255 : Int32))), .val (.int ((XT.ushr p1 (8 : Int32)) &&& (255 : Int32))), .val (.int ((XT.ushr p1 (16 : Int32)) &&& (255 : Int32))), .val (.int ((XT.ushr p1 (24 : Int32)) &&& (255 : Int32))), .val (.int r1), .val (.int r2), .val (.int r3), .val (.int r4), .val (.ref a5), .val (.ref a157), .unset] [(.int r2), (.int r1), (.int ((XT.ushr p0 (4 : Int32)) &&& (3 : Int32))), (.int ((XT.ushr p1 (8 : Int32)) &&& (255 : Int32))), (.int (p1 &&& (255 : Int32))), (.int (p0 &&& (3 : Int32)))])) (fun t kt => XS.iload X181.here hx rfl (hb hby at_208) rfl kt) ?_
      refine Go.stat X181 hx hZ hown (hw _ (List.mem_of_getElem? (i := 37) rfl)) (hw _ (List.mem_of_getElem? (i := 38) rfl)) (hw _ (List.mem_of_getElem? (i := 2) rfl)) (hw _ (List.mem_of_getElem? (i := 39) rfl)) (by decide) (argsL := [(.int (p0 &&& (3 : Int32))), (.int (p1 &&& (255 : Int32))), (.int ((XT.ushr p1 (8 : Int32)) &&& (255 : Int32))), (.int ((XT.ushr p0 (4 : Int32)) &&& (3 : Int32))), (.int r1), (.int r2)]) (rest := []) (rmCV l Z a0 hw (p0 &&& (3 : Int32)) (p1 &&& (255 : Int32)) ((XT.ushr p1 (8 : Int32)) &&& (255 : Int32)) ((XT.ushr p0 (4 : Int32)) &&& (3 : Int32)) r1 r2 T181.heap n0 Z181) eh181 rfl (by rw [hml]; rfl) pd__IIIIII_Z rfl (hb hby at_210) 0 (Nat.le_refl _) (by decide) (by decide) (by decide) (by decide) ?_
      intro v184 T184 L184 X184 hQ184
      obtain ⟨hv184, N184', e184⟩ := hQ184
      subst hv184
      have N184 := Fr.app N181 N184'
      show Go pP eE below _ (T184.setTop (mkF m 213 #[.val (.int p0), .val (.int p1), .val (.int p2), .val (.int p3), .val (.int p4), .val (.int (p0 &&& (3 : Int32))), .val (.int ((XT.ushr p0 (2 : Int32)) &&& (3 : Int32))), .val (.int ((XT.ushr p0 (4 : Int32)) &&& (3 : Int32))), .val (.int ((XT.ushr p0 (6 : Int32)) &&& (3 : Int32))), .val (.int (p1 &&& (255 : Int32))), .val (.int ((XT.ushr p1 (8 : Int32)) &&& (255 : Int32))), .val (.int ((XT.ushr p1 (16 : Int32)) &&& (255 : Int32))), .val (.int ((XT.ushr p1 (24 : Int32)) &&& (255 : Int32))), .val (.int r1), .val (.int r2), .val (.int r3), .val (.int r4), .val (.ref a5), .val (.ref a157), .unset] [(.int (own_cov (p0 &&& (3 : Int32)) (p1 &&& (255 : Int32)) ((XT.ushr p1 (8 : Int32)) &&& (255 : Int32)) ((XT.ushr p0 (4 : Int32)) &&& (3 : Int32)) r1 r2))]))
      by_cases hc213_185 : (own_cov (p0 &&& (3 : Int32)) (p1 &&& (255 : Int32)) ((XT.ushr p1 (8 : Int32)) &&& (255 : Int32)) ((XT.ushr p0 (4 : Int32)) &&& (3 : Int32)) r1 r2) = 0
      · refine Go.st (S' := T184.setTop (mkF m 238 #[.val (.int p0), .val (.int p1), .val (.int p2), .val (.int p3), .val (.int p4), .val (.int (p0 &&& (3 : Int32))), .val (.int ((XT.ushr p0 (2 : Int32)) &&& (3 : Int32))), .val (.int ((XT.ushr p0 (4 : Int32)) &&& (3 : Int32))), .val (.int ((XT.ushr p0 (6 : Int32)) &&& (3 : Int32))), .val (.int (p1 &&& (255 : Int32))), .val (.int ((XT.ushr p1 (8 : Int32)) &&& (255 : Int32))), .val (.int ((XT.ushr p1 (16 : Int32)) &&& (255 : Int32))), .val (.int ((XT.ushr p1 (24 : Int32)) &&& (255 : Int32))), .val (.int r1), .val (.int r2), .val (.int r3), .val (.int r4), .val (.ref a5), .val (.ref a157), .unset] [])) (fun t kt => XS.ifYes X184.here hx rfl (pc0 := 213) (pc' := 238) rfl (hb hby at_213) rfl (XT.i0_eq_t hc213_185) (by decide) (by decide) kt) ?_
        refine Go.st (S' := T184.setTop (mkF m 239 #[.val (.int p0), .val (.int p1), .val (.int p2), .val (.int p3), .val (.int p4), .val (.int (p0 &&& (3 : Int32))), .val (.int ((XT.ushr p0 (2 : Int32)) &&& (3 : Int32))), .val (.int ((XT.ushr p0 (4 : Int32)) &&& (3 : Int32))), .val (.int ((XT.ushr p0 (6 : Int32)) &&& (3 : Int32))), .val (.int (p1 &&& (255 : Int32))), .val (.int ((XT.ushr p1 (8 : Int32)) &&& (255 : Int32))), .val (.int ((XT.ushr p1 (16 : Int32)) &&& (255 : Int32))), .val (.int ((XT.ushr p1 (24 : Int32)) &&& (255 : Int32))), .val (.int r1), .val (.int r2), .val (.int r3), .val (.int r4), .val (.ref a5), .val (.ref a157), .unset] [(.int (0 : Int32))])) (fun t kt => XS.iconst X184.here hx rfl (hb hby at_238) kt) ?_
        refine Go.st (S' := T184.setTop (mkF m 241 #[.val (.int p0), .val (.int p1), .val (.int p2), .val (.int p3), .val (.int p4), .val (.int (p0 &&& (3 : Int32))), .val (.int ((XT.ushr p0 (2 : Int32)) &&& (3 : Int32))), .val (.int ((XT.ushr p0 (4 : Int32)) &&& (3 : Int32))), .val (.int ((XT.ushr p0 (6 : Int32)) &&& (3 : Int32))), .val (.int (p1 &&& (255 : Int32))), .val (.int ((XT.ushr p1 (8 : Int32)) &&& (255 : Int32))), .val (.int ((XT.ushr p1 (16 : Int32)) &&& (255 : Int32))), .val (.int ((XT.ushr p1 (24 : Int32)) &&& (255 : Int32))), .val (.int r1), .val (.int r2), .val (.int r3), .val (.int r4), .val (.ref a5), .val (.ref a157), .val (.int (0 : Int32))] [])) (fun t kt => XS.istore X184.here hx rfl (hb hby at_239) rfl rfl kt) ?_
        refine Go.st (S' := T184.setTop (mkF m 243 #[.val (.int p0), .val (.int p1), .val (.int p2), .val (.int p3), .val (.int p4), .val (.int (p0 &&& (3 : Int32))), .val (.int ((XT.ushr p0 (2 : Int32)) &&& (3 : Int32))), .val (.int ((XT.ushr p0 (4 : Int32)) &&& (3 : Int32))), .val (.int ((XT.ushr p0 (6 : Int32)) &&& (3 : Int32))), .val (.int (p1 &&& (255 : Int32))), .val (.int ((XT.ushr p1 (8 : Int32)) &&& (255 : Int32))), .val (.int ((XT.ushr p1 (16 : Int32)) &&& (255 : Int32))), .val (.int ((XT.ushr p1 (24 : Int32)) &&& (255 : Int32))), .val (.int r1), .val (.int r2), .val (.int r3), .val (.int r4), .val (.ref a5), .val (.ref a157), .val (.int (0 : Int32))] [(.ref a5)])) (fun t kt => XS.aload X184.here hx rfl (hb hby at_241) rfl rfl kt) ?_
        refine Go.st (S' := T184.setTop (mkF m 245 #[.val (.int p0), .val (.int p1), .val (.int p2), .val (.int p3), .val (.int p4), .val (.int (p0 &&& (3 : Int32))), .val (.int ((XT.ushr p0 (2 : Int32)) &&& (3 : Int32))), .val (.int ((XT.ushr p0 (4 : Int32)) &&& (3 : Int32))), .val (.int ((XT.ushr p0 (6 : Int32)) &&& (3 : Int32))), .val (.int (p1 &&& (255 : Int32))), .val (.int ((XT.ushr p1 (8 : Int32)) &&& (255 : Int32))), .val (.int ((XT.ushr p1 (16 : Int32)) &&& (255 : Int32))), .val (.int ((XT.ushr p1 (24 : Int32)) &&& (255 : Int32))), .val (.int r1), .val (.int r2), .val (.int r3), .val (.int r4), .val (.ref a5), .val (.ref a157), .val (.int (0 : Int32))] [(.ref a157), (.ref a5)])) (fun t kt => XS.aload X184.here hx rfl (hb hby at_243) rfl rfl kt) ?_
        have f186 := (own_sta_keep (own_sta_keep f169 K170' all0) K181' (allS (own_obj_exa f175) all0))
        have f187 := (f182.keep K181')
        have f188 := ((((f155_1.ext E157).keep K165' nin0).keep K170' nin0).keep K181' (ninS (Nat.ne_of_lt (by rw [g157]; exact f155_0.lt)) nin0))
        have f189 := ((((f155_2.ext E157).keep K165' nin0).keep K170' nin0).keep K181' (ninS (Nat.ne_of_lt (by rw [g157]; exact f155_0.lt)) nin0))
        have f190 := (StrIs.keep (StrIs.keep f173 K170' all0) K181' (allS (own_nostr f175 (by decide) (hw _ (List.mem_of_getElem? (i := 5) rfl))) all0))
        have f191 := (StrIs.keep (StrIs.keep f174 K170' all0) K181' (allS (own_nostr f175 (by decide) (hw _ (List.mem_of_getElem? (i := 5) rfl))) all0))
        have f192 := (StrIs.keep (StrIs.keep f165_1 K170' all0) K181' (allS (own_nostr f175 (by decide) (hw _ (List.mem_of_getElem? (i := 5) rfl))) all0))
        have f193 := (StrIs.keep f170_1 K181' (allS (own_nostr f175 (by decide) (hw _ (List.mem_of_getElem? (i := 5) rfl))) all0))
        refine Go.virt X184 hx hZ hown (hw _ (List.mem_of_getElem? (i := 40) rfl)) (hw _ (List.mem_of_getElem? (i := 41) rfl)) (notFace_of_selects (mvT (args := #[]) hZ (hw _ (List.mem_of_getElem? (i := 43) rfl)))) (hw _ (List.mem_of_getElem? (i := 43) rfl)) (hw _ (List.mem_of_getElem? (i := 42) rfl)) (hw _ (List.mem_of_getElem? (i := 44) rfl)) (hw _ (List.mem_of_getElem? (i := 6) rfl)) (by decide) (b := a5) (argsL := [(.ref a157)]) (rest := []) (rmAE l Z a0 hw a5 a157 u145 u147 u165 u170 (own_co (p0 &&& (3 : Int32)) (p1 &&& (255 : Int32)) ((XT.ushr p1 (8 : Int32)) &&& (255 : Int32))) (own_co ((XT.ushr p0 (2 : Int32)) &&& (3 : Int32)) ((XT.ushr p1 (16 : Int32)) &&& (255 : Int32)) ((XT.ushr p1 (24 : Int32)) &&& (255 : Int32))) (own_co ((XT.ushr p0 (4 : Int32)) &&& (3 : Int32)) r1 r2) (own_co ((XT.ushr p0 (6 : Int32)) &&& (3 : Int32)) r3 r4) T181.heap n0 Z181 cs f186 hcs f187 f188 f189 f181_1 f181_2 hu_u165 hu_u170 f190 f191 f192 f193 (StrIs.sep f167 f165_0) (StrIs.sep f174 f170_0)) e184 f187 rfl (by rw [hml]; rfl) pd__Lcom_example_sunder_sunder_query_Step__Z rfl (hb hby at_245) 0 (Nat.le_refl _) (by decide) (by decide) (by decide) (by decide) ?_
        intro v194 T194 L194 X194 hQ194
        obtain ⟨hv194, N194', e194⟩ := hQ194
        subst hv194
        have N194 := Fr.app N184 N194'
        show Go pP eE below _ (T194.setTop (mkF m 248 #[.val (.int p0), .val (.int p1), .val (.int p2), .val (.int p3), .val (.int p4), .val (.int (p0 &&& (3 : Int32))), .val (.int ((XT.ushr p0 (2 : Int32)) &&& (3 : Int32))), .val (.int ((XT.ushr p0 (4 : Int32)) &&& (3 : Int32))), .val (.int ((XT.ushr p0 (6 : Int32)) &&& (3 : Int32))), .val (.int (p1 &&& (255 : Int32))), .val (.int ((XT.ushr p1 (8 : Int32)) &&& (255 : Int32))), .val (.int ((XT.ushr p1 (16 : Int32)) &&& (255 : Int32))), .val (.int ((XT.ushr p1 (24 : Int32)) &&& (255 : Int32))), .val (.int r1), .val (.int r2), .val (.int r3), .val (.int r4), .val (.ref a5), .val (.ref a157), .val (.int (0 : Int32))] [(.int (own_adm (own_co (p0 &&& (3 : Int32)) (p1 &&& (255 : Int32)) ((XT.ushr p1 (8 : Int32)) &&& (255 : Int32))) (own_co ((XT.ushr p0 (2 : Int32)) &&& (3 : Int32)) ((XT.ushr p1 (16 : Int32)) &&& (255 : Int32)) ((XT.ushr p1 (24 : Int32)) &&& (255 : Int32))) (own_co ((XT.ushr p0 (4 : Int32)) &&& (3 : Int32)) r1 r2) (own_co ((XT.ushr p0 (6 : Int32)) &&& (3 : Int32)) r3 r4)))]))
        refine Go.st (S' := T194.setTop (mkF m 250 #[.val (.int p0), .val (.int p1), .val (.int p2), .val (.int p3), .val (.int p4), .val (.int (p0 &&& (3 : Int32))), .val (.int ((XT.ushr p0 (2 : Int32)) &&& (3 : Int32))), .val (.int ((XT.ushr p0 (4 : Int32)) &&& (3 : Int32))), .val (.int ((XT.ushr p0 (6 : Int32)) &&& (3 : Int32))), .val (.int (p1 &&& (255 : Int32))), .val (.int ((XT.ushr p1 (8 : Int32)) &&& (255 : Int32))), .val (.int ((XT.ushr p1 (16 : Int32)) &&& (255 : Int32))), .val (.int ((XT.ushr p1 (24 : Int32)) &&& (255 : Int32))), .val (.int r1), .val (.int r2), .val (.int r3), .val (.int r4), .val (.ref a5), .val (.ref a157), .val (.int (0 : Int32))] [(.int (0 : Int32)), (.int (own_adm (own_co (p0 &&& (3 : Int32)) (p1 &&& (255 : Int32)) ((XT.ushr p1 (8 : Int32)) &&& (255 : Int32))) (own_co ((XT.ushr p0 (2 : Int32)) &&& (3 : Int32)) ((XT.ushr p1 (16 : Int32)) &&& (255 : Int32)) ((XT.ushr p1 (24 : Int32)) &&& (255 : Int32))) (own_co ((XT.ushr p0 (4 : Int32)) &&& (3 : Int32)) r1 r2) (own_co ((XT.ushr p0 (6 : Int32)) &&& (3 : Int32)) r3 r4)))])) (fun t kt => XS.iload X194.here hx rfl (hb hby at_248) rfl kt) ?_
        refine Go.st (S' := T194.setTop (mkF m 253 #[.val (.int p0), .val (.int p1), .val (.int p2), .val (.int p3), .val (.int p4), .val (.int (p0 &&& (3 : Int32))), .val (.int ((XT.ushr p0 (2 : Int32)) &&& (3 : Int32))), .val (.int ((XT.ushr p0 (4 : Int32)) &&& (3 : Int32))), .val (.int ((XT.ushr p0 (6 : Int32)) &&& (3 : Int32))), .val (.int (p1 &&& (255 : Int32))), .val (.int ((XT.ushr p1 (8 : Int32)) &&& (255 : Int32))), .val (.int ((XT.ushr p1 (16 : Int32)) &&& (255 : Int32))), .val (.int ((XT.ushr p1 (24 : Int32)) &&& (255 : Int32))), .val (.int r1), .val (.int r2), .val (.int r3), .val (.int r4), .val (.ref a5), .val (.ref a157), .val (.int (0 : Int32))] [])) (fun t kt => XS.icmpNo X194.here hx rfl (hb hby at_250) rfl (XT.ii_ne_f ((own_fin (own_mask4 _) (own_mask4 _) (own_mask4 _) (own_mask4 _) ⟨_, rfl⟩ ⟨_, rfl⟩ lo1 lo2 ⟨_, rfl⟩ ⟨_, rfl⟩ lo3 lo4).trans (by simp [hc213_185]))) kt) ?_
        refine Go.st (S' := T194.setTop (mkF m 254 #[.val (.int p0), .val (.int p1), .val (.int p2), .val (.int p3), .val (.int p4), .val (.int (p0 &&& (3 : Int32))), .val (.int ((XT.ushr p0 (2 : Int32)) &&& (3 : Int32))), .val (.int ((XT.ushr p0 (4 : Int32)) &&& (3 : Int32))), .val (.int ((XT.ushr p0 (6 : Int32)) &&& (3 : Int32))), .val (.int (p1 &&& (255 : Int32))), .val (.int ((XT.ushr p1 (8 : Int32)) &&& (255 : Int32))), .val (.int ((XT.ushr p1 (16 : Int32)) &&& (255 : Int32))), .val (.int ((XT.ushr p1 (24 : Int32)) &&& (255 : Int32))), .val (.int r1), .val (.int r2), .val (.int r3), .val (.int r4), .val (.ref a5), .val (.ref a157), .val (.int (0 : Int32))] [(.int (1 : Int32))])) (fun t kt => XS.iconst X194.here hx rfl (hb hby at_253) kt) ?_
        refine Go.st (S' := T194.setTop (mkF m 258 #[.val (.int p0), .val (.int p1), .val (.int p2), .val (.int p3), .val (.int p4), .val (.int (p0 &&& (3 : Int32))), .val (.int ((XT.ushr p0 (2 : Int32)) &&& (3 : Int32))), .val (.int ((XT.ushr p0 (4 : Int32)) &&& (3 : Int32))), .val (.int ((XT.ushr p0 (6 : Int32)) &&& (3 : Int32))), .val (.int (p1 &&& (255 : Int32))), .val (.int ((XT.ushr p1 (8 : Int32)) &&& (255 : Int32))), .val (.int ((XT.ushr p1 (16 : Int32)) &&& (255 : Int32))), .val (.int ((XT.ushr p1 (24 : Int32)) &&& (255 : Int32))), .val (.int r1), .val (.int r2), .val (.int r3), .val (.int r4), .val (.ref a5), .val (.ref a157), .val (.int (0 : Int32))] [(.int (1 : Int32))])) (fun t kt => XS.goto X194.here hx rfl (pc0 := 254) (pc' := 258) rfl (hb hby at_254) (by decide) (by decide) kt) ?_
        exact retw_b X194 hZ hEL e194 C181 hS hk hx hlk hret (hb hby at_258) (by decide) (by decide) (⟨rfl, N194⟩)
      · refine Go.st (S' := T184.setTop (mkF m 216 #[.val (.int p0), .val (.int p1), .val (.int p2), .val (.int p3), .val (.int p4), .val (.int (p0 &&& (3 : Int32))), .val (.int ((XT.ushr p0 (2 : Int32)) &&& (3 : Int32))), .val (.int ((XT.ushr p0 (4 : Int32)) &&& (3 : Int32))), .val (.int ((XT.ushr p0 (6 : Int32)) &&& (3 : Int32))), .val (.int (p1 &&& (255 : Int32))), .val (.int ((XT.ushr p1 (8 : Int32)) &&& (255 : Int32))), .val (.int ((XT.ushr p1 (16 : Int32)) &&& (255 : Int32))), .val (.int ((XT.ushr p1 (24 : Int32)) &&& (255 : Int32))), .val (.int r1), .val (.int r2), .val (.int r3), .val (.int r4), .val (.ref a5), .val (.ref a157), .unset] [])) (fun t kt => XS.ifNo X184.here hx rfl (hb hby at_213) rfl (XT.i0_eq_f hc213_185) kt) ?_
        refine Go.st (S' := T184.setTop (mkF m 218 #[.val (.int p0), .val (.int p1), .val (.int p2), .val (.int p3), .val (.int p4), .val (.int (p0 &&& (3 : Int32))), .val (.int ((XT.ushr p0 (2 : Int32)) &&& (3 : Int32))), .val (.int ((XT.ushr p0 (4 : Int32)) &&& (3 : Int32))), .val (.int ((XT.ushr p0 (6 : Int32)) &&& (3 : Int32))), .val (.int (p1 &&& (255 : Int32))), .val (.int ((XT.ushr p1 (8 : Int32)) &&& (255 : Int32))), .val (.int ((XT.ushr p1 (16 : Int32)) &&& (255 : Int32))), .val (.int ((XT.ushr p1 (24 : Int32)) &&& (255 : Int32))), .val (.int r1), .val (.int r2), .val (.int r3), .val (.int r4), .val (.ref a5), .val (.ref a157), .unset] [(.int ((XT.ushr p0 (2 : Int32)) &&& (3 : Int32)))])) (fun t kt => XS.iload X184.here hx rfl (hb hby at_216) rfl kt) ?_
        refine Go.st (S' := T184.setTop (mkF m 220 #[.val (.int p0), .val (.int p1), .val (.int p2), .val (.int p3), .val (.int p4), .val (.int (p0 &&& (3 : Int32))), .val (.int ((XT.ushr p0 (2 : Int32)) &&& (3 : Int32))), .val (.int ((XT.ushr p0 (4 : Int32)) &&& (3 : Int32))), .val (.int ((XT.ushr p0 (6 : Int32)) &&& (3 : Int32))), .val (.int (p1 &&& (255 : Int32))), .val (.int ((XT.ushr p1 (8 : Int32)) &&& (255 : Int32))), .val (.int ((XT.ushr p1 (16 : Int32)) &&& (255 : Int32))), .val (.int ((XT.ushr p1 (24 : Int32)) &&& (255 : Int32))), .val (.int r1), .val (.int r2), .val (.int r3), .val (.int r4), .val (.ref a5), .val (.ref a157), .unset] [(.int ((XT.ushr p1 (16 : Int32)) &&& (255 : Int32))), (.int ((XT.ushr p0 (2 : Int32)) &&& (3 : Int32)))])) (fun t kt => XS.iload X184.here hx rfl (hb hby at_218) rfl kt) ?_
        refine Go.st (S' := T184.setTop (mkF m 222 #[.val (.int p0), .val (.int p1), .val (.int p2), .val (.int p3), .val (.int p4), .val (.int (p0 &&& (3 : Int32))), .val (.int ((XT.ushr p0 (2 : Int32)) &&& (3 : Int32))), .val (.int ((XT.ushr p0 (4 : Int32)) &&& (3 : Int32))), .val (.int ((XT.ushr p0 (6 : Int32)) &&& (3 : Int32))), .val (.int (p1 &&& (255 : Int32))), .val (.int ((XT.ushr p1 (8 : Int32)) &&& (255 : Int32))), .val (.int ((XT.ushr p1 (16 : Int32)) &&& (255 : Int32))), .val (.int ((XT.ushr p1 (24 : Int32)) &&& (255 : Int32))), .val (.int r1), .val (.int r2), .val (.int r3), .val (.int r4), .val (.ref a5), .val (.ref a157), .unset] [(.int ((XT.ushr p1 (24 : Int32)) &&& (255 : Int32))), (.int ((XT.ushr p1 (16 : Int32)) &&& (255 : Int32))), (.int ((XT.ushr p0 (2 : Int32)) &&& (3 : Int32)))])) (fun t kt => XS.iload X184.here hx rfl (hb hby at_220) rfl kt) ?_
        refine Go.st (S' := T184.setTop (mkF m 224 #[.val (.int p0), .val (.int p1), .val (.int p2), .val (.int p3), .val (.int p4), .val (.int (p0 &&& (3 : Int32))), .val (.int ((XT.ushr p0 (2 : Int32)) &&& (3 : Int32))), .val (.int ((XT.ushr p0 (4 : Int32)) &&& (3 : Int32))), .val (.int ((XT.ushr p0 (6 : Int32)) &&& (3 : Int32))), .val (.int (p1 &&& (255 : Int32))), .val (.int ((XT.ushr p1 (8 : Int32)) &&& (255 : Int32))), .val (.int ((XT.ushr p1 (16 : Int32)) &&& (255 : Int32))), .val (.int ((XT.ushr p1 (24 : Int32)) &&& (255 : Int32))), .val (.int r1), .val (.int r2), .val (.int r3), .val (.int r4), .val (.ref a5), .val (.ref a157), .unset] [(.int ((XT.ushr p0 (6 : Int32)) &&& (3 : Int32))), (.int ((XT.ushr p1 (24 : Int32)) &&& (255 : Int32))), (.int ((XT.ushr p1 (16 : Int32)) &&& (255 : Int32))), (.int ((XT.ushr p0 (2 : Int32)) &&& (3 : Int32)))])) (fun t kt => XS.iload X184.here hx rfl (hb hby at_222) rfl kt) ?_
        refine Go.st (S' := T184.setTop (mkF m 226 #[.val (.int p0), .val (.int p1), .val (.int p2), .val (.int p3), .val (.int p4), .val (.int (p0 &&& (3 : Int32))), .val (.int ((XT.ushr p0 (2 : Int32)) &&& (3 : Int32))), .val (.int ((XT.ushr p0 (4 : Int32)) &&& (3 : Int32))), .val (.int ((XT.ushr p0 (6 : Int32)) &&& (3 : Int32))), .val (.int (p1 &&& (255 : Int32))), .val (.int ((XT.ushr p1 (8 : Int32)) &&& (255 : Int32))), .val (.int ((XT.ushr p1 (16 : Int32)) &&& (255 : Int32))), .val (.int ((XT.ushr p1 (24 : Int32)) &&& (255 : Int32))), .val (.int r1), .val (.int r2), .val (.int r3), .val (.int r4), .val (.ref a5), .val (.ref a157), .unset] [(.int r3), (.int ((XT.ushr p0 (6 : Int32)) &&& (3 : Int32))), (.int ((XT.ushr p1 (24 : Int32)) &&& (255 : Int32))), (.int ((XT.ushr p1 (16 : Int32)) &&& (255 : Int32))), (.int ((XT.ushr p0 (2 : Int32)) &&& (3 : Int32)))])) (fun t kt => XS.iload X184.here hx rfl (hb hby at_224) rfl kt) ?_
        refine Go.st (S' := T184.setTop (mkF m 228 #[.val (.int p0), .val (.int p1), .val (.int p2), .val (.int p3), .val (.int p4), .val (.int (p0 &&& (3 : Int32))), .val (.int ((XT.ushr p0 (2 : Int32)) &&& (3 : Int32))), .val (.int ((XT.ushr p0 (4 : Int32)) &&& (3 : Int32))), .val (.int ((XT.ushr p0 (6 : Int32)) &&& (3 : Int32))), .val (.int (p1 &&& (255 : Int32))), .val (.int ((XT.ushr p1 (8 : Int32)) &&& (255 : Int32))), .val (.int ((XT.ushr p1 (16 : Int32)) &&& (255 : Int32))), .val (.int ((XT.ushr p1 (24 : Int32)) &&& (255 : Int32))), .val (.int r1), .val (.int r2), .val (.int r3), .val (.int r4), .val (.ref a5), .val (.ref a157), .unset] [(.int r4), (.int r3), (.int ((XT.ushr p0 (6 : Int32)) &&& (3 : Int32))), (.int ((XT.ushr p1 (24 : Int32)) &&& (255 : Int32))), (.int ((XT.ushr p1 (16 : Int32)) &&& (255 : Int32))), (.int ((XT.ushr p0 (2 : Int32)) &&& (3 : Int32)))])) (fun t kt => XS.iload X184.here hx rfl (hb hby at_226) rfl kt) ?_
        refine Go.stat X184 hx hZ hown (hw _ (List.mem_of_getElem? (i := 37) rfl)) (hw _ (List.mem_of_getElem? (i := 38) rfl)) (hw _ (List.mem_of_getElem? (i := 2) rfl)) (hw _ (List.mem_of_getElem? (i := 39) rfl)) (by decide) (argsL := [(.int ((XT.ushr p0 (2 : Int32)) &&& (3 : Int32))), (.int ((XT.ushr p1 (16 : Int32)) &&& (255 : Int32))), (.int ((XT.ushr p1 (24 : Int32)) &&& (255 : Int32))), (.int ((XT.ushr p0 (6 : Int32)) &&& (3 : Int32))), (.int r3), (.int r4)]) (rest := []) (rmCV l Z a0 hw ((XT.ushr p0 (2 : Int32)) &&& (3 : Int32)) ((XT.ushr p1 (16 : Int32)) &&& (255 : Int32)) ((XT.ushr p1 (24 : Int32)) &&& (255 : Int32)) ((XT.ushr p0 (6 : Int32)) &&& (3 : Int32)) r3 r4 T181.heap n0 Z181) e184 rfl (by rw [hml]; rfl) pd__IIIIII_Z rfl (hb hby at_228) 0 (Nat.le_refl _) (by decide) (by decide) (by decide) (by decide) ?_
        intro v195 T195 L195 X195 hQ195
        obtain ⟨hv195, N195', e195⟩ := hQ195
        subst hv195
        have N195 := Fr.app N184 N195'
        show Go pP eE below _ (T195.setTop (mkF m 231 #[.val (.int p0), .val (.int p1), .val (.int p2), .val (.int p3), .val (.int p4), .val (.int (p0 &&& (3 : Int32))), .val (.int ((XT.ushr p0 (2 : Int32)) &&& (3 : Int32))), .val (.int ((XT.ushr p0 (4 : Int32)) &&& (3 : Int32))), .val (.int ((XT.ushr p0 (6 : Int32)) &&& (3 : Int32))), .val (.int (p1 &&& (255 : Int32))), .val (.int ((XT.ushr p1 (8 : Int32)) &&& (255 : Int32))), .val (.int ((XT.ushr p1 (16 : Int32)) &&& (255 : Int32))), .val (.int ((XT.ushr p1 (24 : Int32)) &&& (255 : Int32))), .val (.int r1), .val (.int r2), .val (.int r3), .val (.int r4), .val (.ref a5), .val (.ref a157), .unset] [(.int (own_cov ((XT.ushr p0 (2 : Int32)) &&& (3 : Int32)) ((XT.ushr p1 (16 : Int32)) &&& (255 : Int32)) ((XT.ushr p1 (24 : Int32)) &&& (255 : Int32)) ((XT.ushr p0 (6 : Int32)) &&& (3 : Int32)) r3 r4))]))
        by_cases hc231_196 : (own_cov ((XT.ushr p0 (2 : Int32)) &&& (3 : Int32)) ((XT.ushr p1 (16 : Int32)) &&& (255 : Int32)) ((XT.ushr p1 (24 : Int32)) &&& (255 : Int32)) ((XT.ushr p0 (6 : Int32)) &&& (3 : Int32)) r3 r4) = 0
        · refine Go.st (S' := T195.setTop (mkF m 238 #[.val (.int p0), .val (.int p1), .val (.int p2), .val (.int p3), .val (.int p4), .val (.int (p0 &&& (3 : Int32))), .val (.int ((XT.ushr p0 (2 : Int32)) &&& (3 : Int32))), .val (.int ((XT.ushr p0 (4 : Int32)) &&& (3 : Int32))), .val (.int ((XT.ushr p0 (6 : Int32)) &&& (3 : Int32))), .val (.int (p1 &&& (255 : Int32))), .val (.int ((XT.ushr p1 (8 : Int32)) &&& (255 : Int32))), .val (.int ((XT.ushr p1 (16 : Int32)) &&& (255 : Int32))), .val (.int ((XT.ushr p1 (24 : Int32)) &&& (255 : Int32))), .val (.int r1), .val (.int r2), .val (.int r3), .val (.int r4), .val (.ref a5), .val (.ref a157), .unset] [])) (fun t kt => XS.ifYes X195.here hx rfl (pc0 := 231) (pc' := 238) rfl (hb hby at_231) rfl (XT.i0_eq_t hc231_196) (by decide) (by decide) kt) ?_
          refine Go.st (S' := T195.setTop (mkF m 239 #[.val (.int p0), .val (.int p1), .val (.int p2), .val (.int p3), .val (.int p4), .val (.int (p0 &&& (3 : Int32))), .val (.int ((XT.ushr p0 (2 : Int32)) &&& (3 : Int32))), .val (.int ((XT.ushr p0 (4 : Int32)) &&& (3 : Int32))), .val (.int ((XT.ushr p0 (6 : Int32)) &&& (3 : Int32))), .val (.int (p1 &&& (255 : Int32))), .val (.int ((XT.ushr p1 (8 : Int32)) &&& (255 : Int32))), .val (.int ((XT.ushr p1 (16 : Int32)) &&& (255 : Int32))), .val (.int ((XT.ushr p1 (24 : Int32)) &&& (255 : Int32))), .val (.int r1), .val (.int r2), .val (.int r3), .val (.int r4), .val (.ref a5), .val (.ref a157), .unset] [(.int (0 : Int32))])) (fun t kt => XS.iconst X195.here hx rfl (hb hby at_238) kt) ?_
          refine Go.st (S' := T195.setTop (mkF m 241 #[.val (.int p0), .val (.int p1), .val (.int p2), .val (.int p3), .val (.int p4), .val (.int (p0 &&& (3 : Int32))), .val (.int ((XT.ushr p0 (2 : Int32)) &&& (3 : Int32))), .val (.int ((XT.ushr p0 (4 : Int32)) &&& (3 : Int32))), .val (.int ((XT.ushr p0 (6 : Int32)) &&& (3 : Int32))), .val (.int (p1 &&& (255 : Int32))), .val (.int ((XT.ushr p1 (8 : Int32)) &&& (255 : Int32))), .val (.int ((XT.ushr p1 (16 : Int32)) &&& (255 : Int32))), .val (.int ((XT.ushr p1 (24 : Int32)) &&& (255 : Int32))), .val (.int r1), .val (.int r2), .val (.int r3), .val (.int r4), .val (.ref a5), .val (.ref a157), .val (.int (0 : Int32))] [])) (fun t kt => XS.istore X195.here hx rfl (hb hby at_239) rfl rfl kt) ?_
          refine Go.st (S' := T195.setTop (mkF m 243 #[.val (.int p0), .val (.int p1), .val (.int p2), .val (.int p3), .val (.int p4), .val (.int (p0 &&& (3 : Int32))), .val (.int ((XT.ushr p0 (2 : Int32)) &&& (3 : Int32))), .val (.int ((XT.ushr p0 (4 : Int32)) &&& (3 : Int32))), .val (.int ((XT.ushr p0 (6 : Int32)) &&& (3 : Int32))), .val (.int (p1 &&& (255 : Int32))), .val (.int ((XT.ushr p1 (8 : Int32)) &&& (255 : Int32))), .val (.int ((XT.ushr p1 (16 : Int32)) &&& (255 : Int32))), .val (.int ((XT.ushr p1 (24 : Int32)) &&& (255 : Int32))), .val (.int r1), .val (.int r2), .val (.int r3), .val (.int r4), .val (.ref a5), .val (.ref a157), .val (.int (0 : Int32))] [(.ref a5)])) (fun t kt => XS.aload X195.here hx rfl (hb hby at_241) rfl rfl kt) ?_
          refine Go.st (S' := T195.setTop (mkF m 245 #[.val (.int p0), .val (.int p1), .val (.int p2), .val (.int p3), .val (.int p4), .val (.int (p0 &&& (3 : Int32))), .val (.int ((XT.ushr p0 (2 : Int32)) &&& (3 : Int32))), .val (.int ((XT.ushr p0 (4 : Int32)) &&& (3 : Int32))), .val (.int ((XT.ushr p0 (6 : Int32)) &&& (3 : Int32))), .val (.int (p1 &&& (255 : Int32))), .val (.int ((XT.ushr p1 (8 : Int32)) &&& (255 : Int32))), .val (.int ((XT.ushr p1 (16 : Int32)) &&& (255 : Int32))), .val (.int ((XT.ushr p1 (24 : Int32)) &&& (255 : Int32))), .val (.int r1), .val (.int r2), .val (.int r3), .val (.int r4), .val (.ref a5), .val (.ref a157), .val (.int (0 : Int32))] [(.ref a157), (.ref a5)])) (fun t kt => XS.aload X195.here hx rfl (hb hby at_243) rfl rfl kt) ?_
          have f197 := (own_sta_keep (own_sta_keep f169 K170' all0) K181' (allS (own_obj_exa f175) all0))
          have f198 := (f182.keep K181')
          have f199 := ((((f155_1.ext E157).keep K165' nin0).keep K170' nin0).keep K181' (ninS (Nat.ne_of_lt (by rw [g157]; exact f155_0.lt)) nin0))
          have f200 := ((((f155_2.ext E157).keep K165' nin0).keep K170' nin0).keep K181' (ninS (Nat.ne_of_lt (by rw [g157]; exact f155_0.lt)) nin0))
          have f201 := (StrIs.keep (StrIs.keep f173 K170' all0) K181' (allS (own_nostr f175 (by decide) (hw _ (List.mem_of_getElem? (i := 5) rfl))) all0))
          have f202 := (StrIs.keep (StrIs.keep f174 K170' all0) K181' (allS (own_nostr f175 (by decide) (hw _ (List.mem_of_getElem? (i := 5) rfl))) all0))
          have f203 := (StrIs.keep (StrIs.keep f165_1 K170' all0) K181' (allS (own_nostr f175 (by decide) (hw _ (List.mem_of_getElem? (i := 5) rfl))) all0))
          have f204 := (StrIs.keep f170_1 K181' (allS (own_nostr f175 (by decide) (hw _ (List.mem_of_getElem? (i := 5) rfl))) all0))
          refine Go.virt X195 hx hZ hown (hw _ (List.mem_of_getElem? (i := 40) rfl)) (hw _ (List.mem_of_getElem? (i := 41) rfl)) (notFace_of_selects (mvT (args := #[]) hZ (hw _ (List.mem_of_getElem? (i := 43) rfl)))) (hw _ (List.mem_of_getElem? (i := 43) rfl)) (hw _ (List.mem_of_getElem? (i := 42) rfl)) (hw _ (List.mem_of_getElem? (i := 44) rfl)) (hw _ (List.mem_of_getElem? (i := 6) rfl)) (by decide) (b := a5) (argsL := [(.ref a157)]) (rest := []) (rmAE l Z a0 hw a5 a157 u145 u147 u165 u170 (own_co (p0 &&& (3 : Int32)) (p1 &&& (255 : Int32)) ((XT.ushr p1 (8 : Int32)) &&& (255 : Int32))) (own_co ((XT.ushr p0 (2 : Int32)) &&& (3 : Int32)) ((XT.ushr p1 (16 : Int32)) &&& (255 : Int32)) ((XT.ushr p1 (24 : Int32)) &&& (255 : Int32))) (own_co ((XT.ushr p0 (4 : Int32)) &&& (3 : Int32)) r1 r2) (own_co ((XT.ushr p0 (6 : Int32)) &&& (3 : Int32)) r3 r4) T181.heap n0 Z181 cs f197 hcs f198 f199 f200 f181_1 f181_2 hu_u165 hu_u170 f201 f202 f203 f204 (StrIs.sep f167 f165_0) (StrIs.sep f174 f170_0)) e195 f198 rfl (by rw [hml]; rfl) pd__Lcom_example_sunder_sunder_query_Step__Z rfl (hb hby at_245) 0 (Nat.le_refl _) (by decide) (by decide) (by decide) (by decide) ?_
          intro v205 T205 L205 X205 hQ205
          obtain ⟨hv205, N205', e205⟩ := hQ205
          subst hv205
          have N205 := Fr.app N195 N205'
          show Go pP eE below _ (T205.setTop (mkF m 248 #[.val (.int p0), .val (.int p1), .val (.int p2), .val (.int p3), .val (.int p4), .val (.int (p0 &&& (3 : Int32))), .val (.int ((XT.ushr p0 (2 : Int32)) &&& (3 : Int32))), .val (.int ((XT.ushr p0 (4 : Int32)) &&& (3 : Int32))), .val (.int ((XT.ushr p0 (6 : Int32)) &&& (3 : Int32))), .val (.int (p1 &&& (255 : Int32))), .val (.int ((XT.ushr p1 (8 : Int32)) &&& (255 : Int32))), .val (.int ((XT.ushr p1 (16 : Int32)) &&& (255 : Int32))), .val (.int ((XT.ushr p1 (24 : Int32)) &&& (255 : Int32))), .val (.int r1), .val (.int r2), .val (.int r3), .val (.int r4), .val (.ref a5), .val (.ref a157), .val (.int (0 : Int32))] [(.int (own_adm (own_co (p0 &&& (3 : Int32)) (p1 &&& (255 : Int32)) ((XT.ushr p1 (8 : Int32)) &&& (255 : Int32))) (own_co ((XT.ushr p0 (2 : Int32)) &&& (3 : Int32)) ((XT.ushr p1 (16 : Int32)) &&& (255 : Int32)) ((XT.ushr p1 (24 : Int32)) &&& (255 : Int32))) (own_co ((XT.ushr p0 (4 : Int32)) &&& (3 : Int32)) r1 r2) (own_co ((XT.ushr p0 (6 : Int32)) &&& (3 : Int32)) r3 r4)))]))
          refine Go.st (S' := T205.setTop (mkF m 250 #[.val (.int p0), .val (.int p1), .val (.int p2), .val (.int p3), .val (.int p4), .val (.int (p0 &&& (3 : Int32))), .val (.int ((XT.ushr p0 (2 : Int32)) &&& (3 : Int32))), .val (.int ((XT.ushr p0 (4 : Int32)) &&& (3 : Int32))), .val (.int ((XT.ushr p0 (6 : Int32)) &&& (3 : Int32))), .val (.int (p1 &&& (255 : Int32))), .val (.int ((XT.ushr p1 (8 : Int32)) &&& (255 : Int32))), .val (.int ((XT.ushr p1 (16 : Int32)) &&& (255 : Int32))), .val (.int ((XT.ushr p1 (24 : Int32)) &&& (255 : Int32))), .val (.int r1), .val (.int r2), .val (.int r3), .val (.int r4), .val (.ref a5), .val (.ref a157), .val (.int (0 : Int32))] [(.int (0 : Int32)), (.int (own_adm (own_co (p0 &&& (3 : Int32)) (p1 &&& (255 : Int32)) ((XT.ushr p1 (8 : Int32)) &&& (255 : Int32))) (own_co ((XT.ushr p0 (2 : Int32)) &&& (3 : Int32)) ((XT.ushr p1 (16 : Int32)) &&& (255 : Int32)) ((XT.ushr p1 (24 : Int32)) &&& (255 : Int32))) (own_co ((XT.ushr p0 (4 : Int32)) &&& (3 : Int32)) r1 r2) (own_co ((XT.ushr p0 (6 : Int32)) &&& (3 : Int32)) r3 r4)))])) (fun t kt => XS.iload X205.here hx rfl (hb hby at_248) rfl kt) ?_
          refine Go.st (S' := T205.setTop (mkF m 253 #[.val (.int p0), .val (.int p1), .val (.int p2), .val (.int p3), .val (.int p4), .val (.int (p0 &&& (3 : Int32))), .val (.int ((XT.ushr p0 (2 : Int32)) &&& (3 : Int32))), .val (.int ((XT.ushr p0 (4 : Int32)) &&& (3 : Int32))), .val (.int ((XT.ushr p0 (6 : Int32)) &&& (3 : Int32))), .val (.int (p1 &&& (255 : Int32))), .val (.int ((XT.ushr p1 (8 : Int32)) &&& (255 : Int32))), .val (.int ((XT.ushr p1 (16 : Int32)) &&& (255 : Int32))), .val (.int ((XT.ushr p1 (24 : Int32)) &&& (255 : Int32))), .val (.int r1), .val (.int r2), .val (.int r3), .val (.int r4), .val (.ref a5), .val (.ref a157), .val (.int (0 : Int32))] [])) (fun t kt => XS.icmpNo X205.here hx rfl (hb hby at_250) rfl (XT.ii_ne_f ((own_fin (own_mask4 _) (own_mask4 _) (own_mask4 _) (own_mask4 _) ⟨_, rfl⟩ ⟨_, rfl⟩ lo1 lo2 ⟨_, rfl⟩ ⟨_, rfl⟩ lo3 lo4).trans (by simp [hc213_185, hc231_196]))) kt) ?_
          refine Go.st (S' := T205.setTop (mkF m 254 #[.val (.int p0), .val (.int p1), .val (.int p2), .val (.int p3), .val (.int p4), .val (.int (p0 &&& (3 : Int32))), .val (.int ((XT.ushr p0 (2 : Int32)) &&& (3 : Int32))), .val (.int ((XT.ushr p0 (4 : Int32)) &&& (3 : Int32))), .val (.int ((XT.ushr p0 (6 : Int32)) &&& (3 : Int32))), .val (.int (p1 &&& (255 : Int32))), .val (.int ((XT.ushr p1 (8 : Int32)) &&& (255 : Int32))), .val (.int ((XT.ushr p1 (16 : Int32)) &&& (255 : Int32))), .val (.int ((XT.ushr p1 (24 : Int32)) &&& (255 : Int32))), .val (.int r1), .val (.int r2), .val (.int r3), .val (.int r4), .val (.ref a5), .val (.ref a157), .val (.int (0 : Int32))] [(.int (1 : Int32))])) (fun t kt => XS.iconst X205.here hx rfl (hb hby at_253) kt) ?_
          refine Go.st (S' := T205.setTop (mkF m 258 #[.val (.int p0), .val (.int p1), .val (.int p2), .val (.int p3), .val (.int p4), .val (.int (p0 &&& (3 : Int32))), .val (.int ((XT.ushr p0 (2 : Int32)) &&& (3 : Int32))), .val (.int ((XT.ushr p0 (4 : Int32)) &&& (3 : Int32))), .val (.int ((XT.ushr p0 (6 : Int32)) &&& (3 : Int32))), .val (.int (p1 &&& (255 : Int32))), .val (.int ((XT.ushr p1 (8 : Int32)) &&& (255 : Int32))), .val (.int ((XT.ushr p1 (16 : Int32)) &&& (255 : Int32))), .val (.int ((XT.ushr p1 (24 : Int32)) &&& (255 : Int32))), .val (.int r1), .val (.int r2), .val (.int r3), .val (.int r4), .val (.ref a5), .val (.ref a157), .val (.int (0 : Int32))] [(.int (1 : Int32))])) (fun t kt => XS.goto X205.here hx rfl (pc0 := 254) (pc' := 258) rfl (hb hby at_254) (by decide) (by decide) kt) ?_
          exact retw_b X205 hZ hEL e205 C181 hS hk hx hlk hret (hb hby at_258) (by decide) (by decide) (⟨rfl, N205⟩)
        · refine Go.st (S' := T195.setTop (mkF m 234 #[.val (.int p0), .val (.int p1), .val (.int p2), .val (.int p3), .val (.int p4), .val (.int (p0 &&& (3 : Int32))), .val (.int ((XT.ushr p0 (2 : Int32)) &&& (3 : Int32))), .val (.int ((XT.ushr p0 (4 : Int32)) &&& (3 : Int32))), .val (.int ((XT.ushr p0 (6 : Int32)) &&& (3 : Int32))), .val (.int (p1 &&& (255 : Int32))), .val (.int ((XT.ushr p1 (8 : Int32)) &&& (255 : Int32))), .val (.int ((XT.ushr p1 (16 : Int32)) &&& (255 : Int32))), .val (.int ((XT.ushr p1 (24 : Int32)) &&& (255 : Int32))), .val (.int r1), .val (.int r2), .val (.int r3), .val (.int r4), .val (.ref a5), .val (.ref a157), .unset] [])) (fun t kt => XS.ifNo X195.here hx rfl (hb hby at_231) rfl (XT.i0_eq_f hc231_196) kt) ?_
          refine Go.st (S' := T195.setTop (mkF m 235 #[.val (.int p0), .val (.int p1), .val (.int p2), .val (.int p3), .val (.int p4), .val (.int (p0 &&& (3 : Int32))), .val (.int ((XT.ushr p0 (2 : Int32)) &&& (3 : Int32))), .val (.int ((XT.ushr p0 (4 : Int32)) &&& (3 : Int32))), .val (.int ((XT.ushr p0 (6 : Int32)) &&& (3 : Int32))), .val (.int (p1 &&& (255 : Int32))), .val (.int ((XT.ushr p1 (8 : Int32)) &&& (255 : Int32))), .val (.int ((XT.ushr p1 (16 : Int32)) &&& (255 : Int32))), .val (.int ((XT.ushr p1 (24 : Int32)) &&& (255 : Int32))), .val (.int r1), .val (.int r2), .val (.int r3), .val (.int r4), .val (.ref a5), .val (.ref a157), .unset] [(.int (1 : Int32))])) (fun t kt => XS.iconst X195.here hx rfl (hb hby at_234) kt) ?_
          refine Go.st (S' := T195.setTop (mkF m 239 #[.val (.int p0), .val (.int p1), .val (.int p2), .val (.int p3), .val (.int p4), .val (.int (p0 &&& (3 : Int32))), .val (.int ((XT.ushr p0 (2 : Int32)) &&& (3 : Int32))), .val (.int ((XT.ushr p0 (4 : Int32)) &&& (3 : Int32))), .val (.int ((XT.ushr p0 (6 : Int32)) &&& (3 : Int32))), .val (.int (p1 &&& (255 : Int32))), .val (.int ((XT.ushr p1 (8 : Int32)) &&& (255 : Int32))), .val (.int ((XT.ushr p1 (16 : Int32)) &&& (255 : Int32))), .val (.int ((XT.ushr p1 (24 : Int32)) &&& (255 : Int32))), .val (.int r1), .val (.int r2), .val (.int r3), .val (.int r4), .val (.ref a5), .val (.ref a157), .unset] [(.int (1 : Int32))])) (fun t kt => XS.goto X195.here hx rfl (pc0 := 235) (pc' := 239) rfl (hb hby at_235) (by decide) (by decide) kt) ?_
          refine Go.st (S' := T195.setTop (mkF m 241 #[.val (.int p0), .val (.int p1), .val (.int p2), .val (.int p3), .val (.int p4), .val (.int (p0 &&& (3 : Int32))), .val (.int ((XT.ushr p0 (2 : Int32)) &&& (3 : Int32))), .val (.int ((XT.ushr p0 (4 : Int32)) &&& (3 : Int32))), .val (.int ((XT.ushr p0 (6 : Int32)) &&& (3 : Int32))), .val (.int (p1 &&& (255 : Int32))), .val (.int ((XT.ushr p1 (8 : Int32)) &&& (255 : Int32))), .val (.int ((XT.ushr p1 (16 : Int32)) &&& (255 : Int32))), .val (.int ((XT.ushr p1 (24 : Int32)) &&& (255 : Int32))), .val (.int r1), .val (.int r2), .val (.int r3), .val (.int r4), .val (.ref a5), .val (.ref a157), .val (.int (1 : Int32))] [])) (fun t kt => XS.istore X195.here hx rfl (hb hby at_239) rfl rfl kt) ?_
          refine Go.st (S' := T195.setTop (mkF m 243 #[.val (.int p0), .val (.int p1), .val (.int p2), .val (.int p3), .val (.int p4), .val (.int (p0 &&& (3 : Int32))), .val (.int ((XT.ushr p0 (2 : Int32)) &&& (3 : Int32))), .val (.int ((XT.ushr p0 (4 : Int32)) &&& (3 : Int32))), .val (.int ((XT.ushr p0 (6 : Int32)) &&& (3 : Int32))), .val (.int (p1 &&& (255 : Int32))), .val (.int ((XT.ushr p1 (8 : Int32)) &&& (255 : Int32))), .val (.int ((XT.ushr p1 (16 : Int32)) &&& (255 : Int32))), .val (.int ((XT.ushr p1 (24 : Int32)) &&& (255 : Int32))), .val (.int r1), .val (.int r2), .val (.int r3), .val (.int r4), .val (.ref a5), .val (.ref a157), .val (.int (1 : Int32))] [(.ref a5)])) (fun t kt => XS.aload X195.here hx rfl (hb hby at_241) rfl rfl kt) ?_
          refine Go.st (S' := T195.setTop (mkF m 245 #[.val (.int p0), .val (.int p1), .val (.int p2), .val (.int p3), .val (.int p4), .val (.int (p0 &&& (3 : Int32))), .val (.int ((XT.ushr p0 (2 : Int32)) &&& (3 : Int32))), .val (.int ((XT.ushr p0 (4 : Int32)) &&& (3 : Int32))), .val (.int ((XT.ushr p0 (6 : Int32)) &&& (3 : Int32))), .val (.int (p1 &&& (255 : Int32))), .val (.int ((XT.ushr p1 (8 : Int32)) &&& (255 : Int32))), .val (.int ((XT.ushr p1 (16 : Int32)) &&& (255 : Int32))), .val (.int ((XT.ushr p1 (24 : Int32)) &&& (255 : Int32))), .val (.int r1), .val (.int r2), .val (.int r3), .val (.int r4), .val (.ref a5), .val (.ref a157), .val (.int (1 : Int32))] [(.ref a157), (.ref a5)])) (fun t kt => XS.aload X195.here hx rfl (hb hby at_243) rfl rfl kt) ?_
          have f206 := (own_sta_keep (own_sta_keep f169 K170' all0) K181' (allS (own_obj_exa f175) all0))
          have f207 := (f182.keep K181')
          have f208 := ((((f155_1.ext E157).keep K165' nin0).keep K170' nin0).keep K181' (ninS (Nat.ne_of_lt (by rw [g157]; exact f155_0.lt)) nin0))
          have f209 := ((((f155_2.ext E157).keep K165' nin0).keep K170' nin0).keep K181' (ninS (Nat.ne_of_lt (by rw [g157]; exact f155_0.lt)) nin0))
          have f210 := (StrIs.keep (StrIs.keep f173 K170' all0) K181' (allS (own_nostr f175 (by decide) (hw _ (List.mem_of_getElem? (i := 5) rfl))) all0))
          have f211 := (StrIs.keep (StrIs.keep f174 K170' all0) K181' (allS (own_nostr f175 (by decide) (hw _ (List.mem_of_getElem? (i := 5) rfl))) all0))
          have f212 := (StrIs.keep (StrIs.keep f165_1 K170' all0) K181' (allS (own_nostr f175 (by decide) (hw _ (List.mem_of_getElem? (i := 5) rfl))) all0))
          have f213 := (StrIs.keep f170_1 K181' (allS (own_nostr f175 (by decide) (hw _ (List.mem_of_getElem? (i := 5) rfl))) all0))
          refine Go.virt X195 hx hZ hown (hw _ (List.mem_of_getElem? (i := 40) rfl)) (hw _ (List.mem_of_getElem? (i := 41) rfl)) (notFace_of_selects (mvT (args := #[]) hZ (hw _ (List.mem_of_getElem? (i := 43) rfl)))) (hw _ (List.mem_of_getElem? (i := 43) rfl)) (hw _ (List.mem_of_getElem? (i := 42) rfl)) (hw _ (List.mem_of_getElem? (i := 44) rfl)) (hw _ (List.mem_of_getElem? (i := 6) rfl)) (by decide) (b := a5) (argsL := [(.ref a157)]) (rest := []) (rmAE l Z a0 hw a5 a157 u145 u147 u165 u170 (own_co (p0 &&& (3 : Int32)) (p1 &&& (255 : Int32)) ((XT.ushr p1 (8 : Int32)) &&& (255 : Int32))) (own_co ((XT.ushr p0 (2 : Int32)) &&& (3 : Int32)) ((XT.ushr p1 (16 : Int32)) &&& (255 : Int32)) ((XT.ushr p1 (24 : Int32)) &&& (255 : Int32))) (own_co ((XT.ushr p0 (4 : Int32)) &&& (3 : Int32)) r1 r2) (own_co ((XT.ushr p0 (6 : Int32)) &&& (3 : Int32)) r3 r4) T181.heap n0 Z181 cs f206 hcs f207 f208 f209 f181_1 f181_2 hu_u165 hu_u170 f210 f211 f212 f213 (StrIs.sep f167 f165_0) (StrIs.sep f174 f170_0)) e195 f207 rfl (by rw [hml]; rfl) pd__Lcom_example_sunder_sunder_query_Step__Z rfl (hb hby at_245) 0 (Nat.le_refl _) (by decide) (by decide) (by decide) (by decide) ?_
          intro v214 T214 L214 X214 hQ214
          obtain ⟨hv214, N214', e214⟩ := hQ214
          subst hv214
          have N214 := Fr.app N195 N214'
          show Go pP eE below _ (T214.setTop (mkF m 248 #[.val (.int p0), .val (.int p1), .val (.int p2), .val (.int p3), .val (.int p4), .val (.int (p0 &&& (3 : Int32))), .val (.int ((XT.ushr p0 (2 : Int32)) &&& (3 : Int32))), .val (.int ((XT.ushr p0 (4 : Int32)) &&& (3 : Int32))), .val (.int ((XT.ushr p0 (6 : Int32)) &&& (3 : Int32))), .val (.int (p1 &&& (255 : Int32))), .val (.int ((XT.ushr p1 (8 : Int32)) &&& (255 : Int32))), .val (.int ((XT.ushr p1 (16 : Int32)) &&& (255 : Int32))), .val (.int ((XT.ushr p1 (24 : Int32)) &&& (255 : Int32))), .val (.int r1), .val (.int r2), .val (.int r3), .val (.int r4), .val (.ref a5), .val (.ref a157), .val (.int (1 : Int32))] [(.int (own_adm (own_co (p0 &&& (3 : Int32)) (p1 &&& (255 : Int32)) ((XT.ushr p1 (8 : Int32)) &&& (255 : Int32))) (own_co ((XT.ushr p0 (2 : Int32)) &&& (3 : Int32)) ((XT.ushr p1 (16 : Int32)) &&& (255 : Int32)) ((XT.ushr p1 (24 : Int32)) &&& (255 : Int32))) (own_co ((XT.ushr p0 (4 : Int32)) &&& (3 : Int32)) r1 r2) (own_co ((XT.ushr p0 (6 : Int32)) &&& (3 : Int32)) r3 r4)))]))
          refine Go.st (S' := T214.setTop (mkF m 250 #[.val (.int p0), .val (.int p1), .val (.int p2), .val (.int p3), .val (.int p4), .val (.int (p0 &&& (3 : Int32))), .val (.int ((XT.ushr p0 (2 : Int32)) &&& (3 : Int32))), .val (.int ((XT.ushr p0 (4 : Int32)) &&& (3 : Int32))), .val (.int ((XT.ushr p0 (6 : Int32)) &&& (3 : Int32))), .val (.int (p1 &&& (255 : Int32))), .val (.int ((XT.ushr p1 (8 : Int32)) &&& (255 : Int32))), .val (.int ((XT.ushr p1 (16 : Int32)) &&& (255 : Int32))), .val (.int ((XT.ushr p1 (24 : Int32)) &&& (255 : Int32))), .val (.int r1), .val (.int r2), .val (.int r3), .val (.int r4), .val (.ref a5), .val (.ref a157), .val (.int (1 : Int32))] [(.int (1 : Int32)), (.int (own_adm (own_co (p0 &&& (3 : Int32)) (p1 &&& (255 : Int32)) ((XT.ushr p1 (8 : Int32)) &&& (255 : Int32))) (own_co ((XT.ushr p0 (2 : Int32)) &&& (3 : Int32)) ((XT.ushr p1 (16 : Int32)) &&& (255 : Int32)) ((XT.ushr p1 (24 : Int32)) &&& (255 : Int32))) (own_co ((XT.ushr p0 (4 : Int32)) &&& (3 : Int32)) r1 r2) (own_co ((XT.ushr p0 (6 : Int32)) &&& (3 : Int32)) r3 r4)))])) (fun t kt => XS.iload X214.here hx rfl (hb hby at_248) rfl kt) ?_
          refine Go.st (S' := T214.setTop (mkF m 253 #[.val (.int p0), .val (.int p1), .val (.int p2), .val (.int p3), .val (.int p4), .val (.int (p0 &&& (3 : Int32))), .val (.int ((XT.ushr p0 (2 : Int32)) &&& (3 : Int32))), .val (.int ((XT.ushr p0 (4 : Int32)) &&& (3 : Int32))), .val (.int ((XT.ushr p0 (6 : Int32)) &&& (3 : Int32))), .val (.int (p1 &&& (255 : Int32))), .val (.int ((XT.ushr p1 (8 : Int32)) &&& (255 : Int32))), .val (.int ((XT.ushr p1 (16 : Int32)) &&& (255 : Int32))), .val (.int ((XT.ushr p1 (24 : Int32)) &&& (255 : Int32))), .val (.int r1), .val (.int r2), .val (.int r3), .val (.int r4), .val (.ref a5), .val (.ref a157), .val (.int (1 : Int32))] [])) (fun t kt => XS.icmpNo X214.here hx rfl (hb hby at_250) rfl (XT.ii_ne_f ((own_fin (own_mask4 _) (own_mask4 _) (own_mask4 _) (own_mask4 _) ⟨_, rfl⟩ ⟨_, rfl⟩ lo1 lo2 ⟨_, rfl⟩ ⟨_, rfl⟩ lo3 lo4).trans (by simp [hc213_185, hc231_196]))) kt) ?_
          refine Go.st (S' := T214.setTop (mkF m 254 #[.val (.int p0), .val (.int p1), .val (.int p2), .val (.int p3), .val (.int p4), .val (.int (p0 &&& (3 : Int32))), .val (.int ((XT.ushr p0 (2 : Int32)) &&& (3 : Int32))), .val (.int ((XT.ushr p0 (4 : Int32)) &&& (3 : Int32))), .val (.int ((XT.ushr p0 (6 : Int32)) &&& (3 : Int32))), .val (.int (p1 &&& (255 : Int32))), .val (.int ((XT.ushr p1 (8 : Int32)) &&& (255 : Int32))), .val (.int ((XT.ushr p1 (16 : Int32)) &&& (255 : Int32))), .val (.int ((XT.ushr p1 (24 : Int32)) &&& (255 : Int32))), .val (.int r1), .val (.int r2), .val (.int r3), .val (.int r4), .val (.ref a5), .val (.ref a157), .val (.int (1 : Int32))] [(.int (1 : Int32))])) (fun t kt => XS.iconst X214.here hx rfl (hb hby at_253) kt) ?_
          refine Go.st (S' := T214.setTop (mkF m 258 #[.val (.int p0), .val (.int p1), .val (.int p2), .val (.int p3), .val (.int p4), .val (.int (p0 &&& (3 : Int32))), .val (.int ((XT.ushr p0 (2 : Int32)) &&& (3 : Int32))), .val (.int ((XT.ushr p0 (4 : Int32)) &&& (3 : Int32))), .val (.int ((XT.ushr p0 (6 : Int32)) &&& (3 : Int32))), .val (.int (p1 &&& (255 : Int32))), .val (.int ((XT.ushr p1 (8 : Int32)) &&& (255 : Int32))), .val (.int ((XT.ushr p1 (16 : Int32)) &&& (255 : Int32))), .val (.int ((XT.ushr p1 (24 : Int32)) &&& (255 : Int32))), .val (.int r1), .val (.int r2), .val (.int r3), .val (.int r4), .val (.ref a5), .val (.ref a157), .val (.int (1 : Int32))] [(.int (1 : Int32))])) (fun t kt => XS.goto X214.here hx rfl (pc0 := 254) (pc' := 258) rfl (hb hby at_254) (by decide) (by decide) kt) ?_
          exact retw_b X214 hZ hEL e214 C181 hS hk hx hlk hret (hb hby at_258) (by decide) (by decide) (⟨rfl, N214⟩)
    · refine Go.st (S' := T157.setTop (mkF m 162 #[.val (.int p0), .val (.int p1), .val (.int p2), .val (.int p3), .val (.int p4), .val (.int (p0 &&& (3 : Int32))), .val (.int ((XT.ushr p0 (2 : Int32)) &&& (3 : Int32))), .val (.int ((XT.ushr p0 (4 : Int32)) &&& (3 : Int32))), .val (.int ((XT.ushr p0 (6 : Int32)) &&& (3 : Int32))), .val (.int (p1 &&& (255 : Int32))), .val (.int ((XT.ushr p1 (8 : Int32)) &&& (255 : Int32))), .val (.int ((XT.ushr p1 (16 : Int32)) &&& (255 : Int32))), .val (.int ((XT.ushr p1 (24 : Int32)) &&& (255 : Int32))), .val (.int r1), .val (.int r2), .val (.int r3), .val (.int r4), .val (.ref a5), .unset, .unset] [(.ref a157), (.ref a157)])) (fun t kt => XS.ifNo X157.here hx rfl (hb hby at_159) rfl (XT.i0_eq_f hc159_158) kt) ?_
      refine Go.st (S' := T157.setTop (mkF m 163 #[.val (.int p0), .val (.int p1), .val (.int p2), .val (.int p3), .val (.int p4), .val (.int (p0 &&& (3 : Int32))), .val (.int ((XT.ushr p0 (2 : Int32)) &&& (3 : Int32))), .val (.int ((XT.ushr p0 (4 : Int32)) &&& (3 : Int32))), .val (.int ((XT.ushr p0 (6 : Int32)) &&& (3 : Int32))), .val (.int (p1 &&& (255 : Int32))), .val (.int ((XT.ushr p1 (8 : Int32)) &&& (255 : Int32))), .val (.int ((XT.ushr p1 (16 : Int32)) &&& (255 : Int32))), .val (.int ((XT.ushr p1 (24 : Int32)) &&& (255 : Int32))), .val (.int r1), .val (.int r2), .val (.int r3), .val (.int r4), .val (.ref a5), .unset, .unset] [(.int (1 : Int32)), (.ref a157), (.ref a157)])) (fun t kt => XS.iconst X157.here hx rfl (hb hby at_162) kt) ?_
      refine Go.st (S' := T157.setTop (mkF m 167 #[.val (.int p0), .val (.int p1), .val (.int p2), .val (.int p3), .val (.int p4), .val (.int (p0 &&& (3 : Int32))), .val (.int ((XT.ushr p0 (2 : Int32)) &&& (3 : Int32))), .val (.int ((XT.ushr p0 (4 : Int32)) &&& (3 : Int32))), .val (.int ((XT.ushr p0 (6 : Int32)) &&& (3 : Int32))), .val (.int (p1 &&& (255 : Int32))), .val (.int ((XT.ushr p1 (8 : Int32)) &&& (255 : Int32))), .val (.int ((XT.ushr p1 (16 : Int32)) &&& (255 : Int32))), .val (.int ((XT.ushr p1 (24 : Int32)) &&& (255 : Int32))), .val (.int r1), .val (.int r2), .val (.int r3), .val (.int r4), .val (.ref a5), .unset, .unset] [(.int (1 : Int32)), (.ref a157), (.ref a157)])) (fun t kt => XS.goto X157.here hx rfl (pc0 := 163) (pc' := 167) rfl (hb hby at_163) (by decide) (by decide) kt) ?_
      refine Go.st (S' := T157.setTop (mkF m 169 #[.val (.int p0), .val (.int p1), .val (.int p2), .val (.int p3), .val (.int p4), .val (.int (p0 &&& (3 : Int32))), .val (.int ((XT.ushr p0 (2 : Int32)) &&& (3 : Int32))), .val (.int ((XT.ushr p0 (4 : Int32)) &&& (3 : Int32))), .val (.int ((XT.ushr p0 (6 : Int32)) &&& (3 : Int32))), .val (.int (p1 &&& (255 : Int32))), .val (.int ((XT.ushr p1 (8 : Int32)) &&& (255 : Int32))), .val (.int ((XT.ushr p1 (16 : Int32)) &&& (255 : Int32))), .val (.int ((XT.ushr p1 (24 : Int32)) &&& (255 : Int32))), .val (.int r1), .val (.int r2), .val (.int r3), .val (.int r4), .val (.ref a5), .unset, .unset] [(.int p4), (.int (1 : Int32)), (.ref a157), (.ref a157)])) (fun t kt => XS.iload X157.here hx rfl (hb hby at_167) rfl kt) ?_
      refine Go.st (S' := T157.setTop (mkF m 170 #[.val (.int p0), .val (.int p1), .val (.int p2), .val (.int p3), .val (.int p4), .val (.int (p0 &&& (3 : Int32))), .val (.int ((XT.ushr p0 (2 : Int32)) &&& (3 : Int32))), .val (.int ((XT.ushr p0 (4 : Int32)) &&& (3 : Int32))), .val (.int ((XT.ushr p0 (6 : Int32)) &&& (3 : Int32))), .val (.int (p1 &&& (255 : Int32))), .val (.int ((XT.ushr p1 (8 : Int32)) &&& (255 : Int32))), .val (.int ((XT.ushr p1 (16 : Int32)) &&& (255 : Int32))), .val (.int ((XT.ushr p1 (24 : Int32)) &&& (255 : Int32))), .val (.int r1), .val (.int r2), .val (.int r3), .val (.int r4), .val (.ref a5), .unset, .unset] [(.int (2 : Int32)), (.int p4), (.int (1 : Int32)), (.ref a157), (.ref a157)])) (fun t kt => XS.iconst X157.here hx rfl (hb hby at_169) kt) ?_
      refine Go.st (S' := T157.setTop (mkF m 171 #[.val (.int p0), .val (.int p1), .val (.int p2), .val (.int p3), .val (.int p4), .val (.int (p0 &&& (3 : Int32))), .val (.int ((XT.ushr p0 (2 : Int32)) &&& (3 : Int32))), .val (.int ((XT.ushr p0 (4 : Int32)) &&& (3 : Int32))), .val (.int ((XT.ushr p0 (6 : Int32)) &&& (3 : Int32))), .val (.int (p1 &&& (255 : Int32))), .val (.int ((XT.ushr p1 (8 : Int32)) &&& (255 : Int32))), .val (.int ((XT.ushr p1 (16 : Int32)) &&& (255 : Int32))), .val (.int ((XT.ushr p1 (24 : Int32)) &&& (255 : Int32))), .val (.int r1), .val (.int r2), .val (.int r3), .val (.int r4), .val (.ref a5), .unset, .unset] [(.int (XT.ushr p4 (2 : Int32))), (.int (1 : Int32)), (.ref a157), (.ref a157)])) (fun t kt => XT.iushr X157.here hx rfl (hb hby at_170) rfl kt) ?_
      have f215 := ((own_sta_keep (own_sta_keep (own_sta_keep f139 K145' all0) K147' all0) K155' (allS (own_obj_exa f149) all0)).ext E157)
      have f216 := ((own_sta_keep (own_sta_keep (own_sta_keep f140 K145' all0) K147' all0) K155' (allS (own_obj_exa f149) all0)).ext E157)
      have f217 := ((own_sta_keep (own_sta_keep (own_sta_keep f141 K145' all0) K147' all0) K155' (allS (own_obj_exa f149) all0)).ext E157)
      have f218 := ((own_sta_keep (own_sta_keep (own_sta_keep f142 K145' all0) K147' all0) K155' (allS (own_obj_exa f149) all0)).ext E157)
      refine Go.stat X157 hx hZ hown (hw _ (List.mem_of_getElem? (i := 7) rfl)) (hw _ (List.mem_of_getElem? (i := 8) rfl)) (hw _ (List.mem_of_getElem? (i := 2) rfl)) (hw _ (List.mem_of_getElem? (i := 9) rfl)) (by decide) (argsL := [(.int (XT.ushr p4 (2 : Int32)))]) (rest := [(.int (1 : Int32)), (.ref a157), (.ref a157)]) (rmKN l Z a0 hw (XT.ushr p4 (2 : Int32)) h157 n0 Z157 k_ELEMENT k_ATTRIBUTE k_TEXT k_SELF f215 f216 f217 f218) e157 rfl (by rw [hml]; rfl) pd__I_Lcom_example_sunder_sunder_query_Step_Kind_ rfl (hb hby at_171) 3 (Nat.le_refl _) (by decide) (by decide) (by decide) (by decide) ?_
      intro v219 T219 L219 X219 hQ219
      obtain ⟨u219, hv219, N219', e219, hu219⟩ := hQ219
      subst hv219
      have N219 := Fr.app N155 N219'
      show Go pP eE below _ (T219.setTop (mkF m 174 #[.val (.int p0), .val (.int p1), .val (.int p2), .val (.int p3), .val (.int p4), .val (.int (p0 &&& (3 : Int32))), .val (.int ((XT.ushr p0 (2 : Int32)) &&& (3 : Int32))), .val (.int ((XT.ushr p0 (4 : Int32)) &&& (3 : Int32))), .val (.int ((XT.ushr p0 (6 : Int32)) &&& (3 : Int32))), .val (.int (p1 &&& (255 : Int32))), .val (.int ((XT.ushr p1 (8 : Int32)) &&& (255 : Int32))), .val (.int ((XT.ushr p1 (16 : Int32)) &&& (255 : Int32))), .val (.int ((XT.ushr p1 (24 : Int32)) &&& (255 : Int32))), .val (.int r1), .val (.int r2), .val (.int r3), .val (.int r4), .val (.ref a5), .unset, .unset] [u219, (.int (1 : Int32)), (.ref a157), (.ref a157)]))
      refine Go.st (S' := T219.setTop (mkF m 176 #[.val (.int p0), .val (.int p1), .val (.int p2), .val (.int p3), .val (.int p4), .val (.int (p0 &&& (3 : Int32))), .val (.int ((XT.ushr p0 (2 : Int32)) &&& (3 : Int32))), .val (.int ((XT.ushr p0 (4 : Int32)) &&& (3 : Int32))), .val (.int ((XT.ushr p0 (6 : Int32)) &&& (3 : Int32))), .val (.int (p1 &&& (255 : Int32))), .val (.int ((XT.ushr p1 (8 : Int32)) &&& (255 : Int32))), .val (.int ((XT.ushr p1 (16 : Int32)) &&& (255 : Int32))), .val (.int ((XT.ushr p1 (24 : Int32)) &&& (255 : Int32))), .val (.int r1), .val (.int r2), .val (.int r3), .val (.int r4), .val (.ref a5), .unset, .unset] [(.int ((XT.ushr p0 (4 : Int32)) &&& (3 : Int32))), u219, (.int (1 : Int32)), (.ref a157), (.ref a157)])) (fun t kt => XS.iload X219.here hx rfl (hb hby at_174) rfl kt) ?_
      refine Go.st (S' := T219.setTop (mkF m 178 #[.val (.int p0), .val (.int p1), .val (.int p2), .val (.int p3), .val (.int p4), .val (.int (p0 &&& (3 : Int32))), .val (.int ((XT.ushr p0 (2 : Int32)) &&& (3 : Int32))), .val (.int ((XT.ushr p0 (4 : Int32)) &&& (3 : Int32))), .val (.int ((XT.ushr p0 (6 : Int32)) &&& (3 : Int32))), .val (.int (p1 &&& (255 : Int32))), .val (.int ((XT.ushr p1 (8 : Int32)) &&& (255 : Int32))), .val (.int ((XT.ushr p1 (16 : Int32)) &&& (255 : Int32))), .val (.int ((XT.ushr p1 (24 : Int32)) &&& (255 : Int32))), .val (.int r1), .val (.int r2), .val (.int r3), .val (.int r4), .val (.ref a5), .unset, .unset] [(.int r1), (.int ((XT.ushr p0 (4 : Int32)) &&& (3 : Int32))), u219, (.int (1 : Int32)), (.ref a157), (.ref a157)])) (fun t kt => XS.iload X219.here hx rfl (hb hby at_176) rfl kt) ?_
      refine Go.st (S' := T219.setTop (mkF m 180 #[.val (.int p0), .val (.int p1), .val (.int p2), .val (.int p3), .val (.int p4), .val (.int (p0 &&& (3 : Int32))), .val (.int ((XT.ushr p0 (2 : Int32)) &&& (3 : Int32))), .val (.int ((XT.ushr p0 (4 : Int32)) &&& (3 : Int32))), .val (.int ((XT.ushr p0 (6 : Int32)) &&& (3 : Int32))), .val (.int (p1 &&& (255 : Int32))), .val (.int ((XT.ushr p1 (8 : Int32)) &&& (255 : Int32))), .val (.int ((XT.ushr p1 (16 : Int32)) &&& (255 : Int32))), .val (.int ((XT.ushr p1 (24 : Int32)) &&& (255 : Int32))), .val (.int r1), .val (.int r2), .val (.int r3), .val (.int r4), .val (.ref a5), .unset, .unset] [(.int r2), (.int r1), (.int ((XT.ushr p0 (4 : Int32)) &&& (3 : Int32))), u219, (.int (1 : Int32)), (.ref a157), (.ref a157)])) (fun t kt => XS.iload X219.here hx rfl (hb hby at_178) rfl kt) ?_
      have f220 := ((own_sta_keep (own_sta_keep f146 K147' all0) K155' (allS (own_obj_exa f149) all0)).ext E157)
      have f222 := (f155_0.ext E157)
      refine Go.statW X219 hx hZ hEL C157.1 hS hk hown (hw _ (List.mem_of_getElem? (i := 13) rfl)) (hw _ (List.mem_of_getElem? (i := 14) rfl)) (hw _ (List.mem_of_getElem? (i := 2) rfl)) (hw _ (List.mem_of_getElem? (i := 15) rfl)) (by decide) (argsL := [(.int ((XT.ushr p0 (4 : Int32)) &&& (3 : Int32))), (.int r1), (.int r2)]) (rest := [u219, (.int (1 : Int32)), (.ref a157), (.ref a157)]) (rmMK l Z a0 hw ((XT.ushr p0 (4 : Int32)) &&& (3 : Int32)) r1 r2 h157 n0 Z157 cs f220 hcs lo1 lo2) e219 rfl (by rw [hml]; rfl) pd__III_Ljava_lang_String_ rfl (hb hby at_180) 4 (by simp [own_cat_r, own_cat_i, own_cat_n, own_cat_j, own_cat_d, XT.cat1 hu219]) (by decide) (by decide) (by decide) (by decide) ?_
      intro v221 T221 L221 X221 hQ221 A221 hS
      have hk : T221.heap.size ≤ T221.heap.size := Nat.le_refl _
      have hZ := own_hZ hZ0 hS
      have hown := own_hown hown0 hS
      have f223 := ((StrIs.keep (StrIs.keep f145_1 K147' all0) K155' (allS (own_nostr f149 (by decide) (hw _ (List.mem_of_getElem? (i := 5) rfl))) all0)).ext E157)
      have f224 := ((StrIs.keep f147_1 K155' (allS (own_nostr f149 (by decide) (hw _ (List.mem_of_getElem? (i := 5) rfl))) all0)).ext E157)
      obtain ⟨u221, hv221, N221', K221', f221_0, f221_1⟩ := hQ221
      subst hv221
      have N221 := Fr.app N219 N221'
      have Z221 : n0 ≤ T221.heap.size := Nat.le_trans Z157 K221'.1
      have eh221 : T221.heap = T221.heap := rfl
      have C221 := CHr.trans C157 A221
      have hu_u221 := StrIs.isRef f221_1
      show Go pP eE below _ (T221.setTop (mkF m 183 #[.val (.int p0), .val (.int p1), .val (.int p2), .val (.int p3), .val (.int p4), .val (.int (p0 &&& (3 : Int32))), .val (.int ((XT.ushr p0 (2 : Int32)) &&& (3 : Int32))), .val (.int ((XT.ushr p0 (4 : Int32)) &&& (3 : Int32))), .val (.int ((XT.ushr p0 (6 : Int32)) &&& (3 : Int32))), .val (.int (p1 &&& (255 : Int32))), .val (.int ((XT.ushr p1 (8 : Int32)) &&& (255 : Int32))), .val (.int ((XT.ushr p1 (16 : Int32)) &&& (255 : Int32))), .val (.int ((XT.ushr p1 (24 : Int32)) &&& (255 : Int32))), .val (.int r1), .val (.int r2), .val (.int r3), .val (.int r4), .val (.ref a5), .unset, .unset] [u221, u219, (.int (1 : Int32)), (.ref a157), (.ref a157)]))
      refine Go.st (S' := T221.setTop (mkF m 185 #[.val (.int p0), .val (.int p1), .val (.int p2), .val (.int p3), .val (.int p4), .val (.int (p0 &&& (3 : Int32))), .val (.int ((XT.ushr p0 (2 : Int32)) &&& (3 : Int32))), .val (.int ((XT.ushr p0 (4 : Int32)) &&& (3 : Int32))), .val (.int ((XT.ushr p0 (6 : Int32)) &&& (3 : Int32))), .val (.int (p1 &&& (255 : Int32))), .val (.int ((XT.ushr p1 (8 : Int32)) &&& (255 : Int32))), .val (.int ((XT.ushr p1 (16 : Int32)) &&& (255 : Int32))), .val (.int ((XT.ushr p1 (24 : Int32)) &&& (255 : Int32))), .val (.int r1), .val (.int r2), .val (.int r3), .val (.int r4), .val (.ref a5), .unset, .unset] [(.int ((XT.ushr p0 (6 : Int32)) &&& (3 : Int32))), u221, u219, (.int (1 : Int32)), (.ref a157), (.ref a157)])) (fun t kt => XS.iload X221.here hx rfl (hb hby at_183) rfl kt) ?_
      refine Go.st (S' := T221.setTop (mkF m 187 #[.val (.int p0), .val (.int p1), .val (.int p2), .val (.int p3), .val (.int p4), .val (.int (p0 &&& (3 : Int32))), .val (.int ((XT.ushr p0 (2 : Int32)) &&& (3 : Int32))), .val (.int ((XT.ushr p0 (4 : Int32)) &&& (3 : Int32))), .val (.int ((XT.ushr p0 (6 : Int32)) &&& (3 : Int32))), .val (.int (p1 &&& (255 : Int32))), .val (.int ((XT.ushr p1 (8 : Int32)) &&& (255 : Int32))), .val (.int ((XT.ushr p1 (16 : Int32)) &&& (255 : Int32))), .val (.int ((XT.ushr p1 (24 : Int32)) &&& (255 : Int32))), .val (.int r1), .val (.int r2), .val (.int r3), .val (.int r4), .val (.ref a5), .unset, .unset] [(.int r3), (.int ((XT.ushr p0 (6 : Int32)) &&& (3 : Int32))), u221, u219, (.int (1 : Int32)), (.ref a157), (.ref a157)])) (fun t kt => XS.iload X221.here hx rfl (hb hby at_185) rfl kt) ?_
      refine Go.st (S' := T221.setTop (mkF m 189 #[.val (.int p0), .val (.int p1), .val (.int p2), .val (.int p3), .val (.int p4), .val (.int (p0 &&& (3 : Int32))), .val (.int ((XT.ushr p0 (2 : Int32)) &&& (3 : Int32))), .val (.int ((XT.ushr p0 (4 : Int32)) &&& (3 : Int32))), .val (.int ((XT.ushr p0 (6 : Int32)) &&& (3 : Int32))), .val (.int (p1 &&& (255 : Int32))), .val (.int ((XT.ushr p1 (8 : Int32)) &&& (255 : Int32))), .val (.int ((XT.ushr p1 (16 : Int32)) &&& (255 : Int32))), .val (.int ((XT.ushr p1 (24 : Int32)) &&& (255 : Int32))), .val (.int r1), .val (.int r2), .val (.int r3), .val (.int r4), .val (.ref a5), .unset, .unset] [(.int r4), (.int r3), (.int ((XT.ushr p0 (6 : Int32)) &&& (3 : Int32))), u221, u219, (.int (1 : Int32)), (.ref a157), (.ref a157)])) (fun t kt => XS.iload X221.here hx rfl (hb hby at_187) rfl kt) ?_
      have f225 := (own_sta_keep f220 K221' all0)
      have f227 := (f222.keep K221')
      have f228 := (A157.keep K221')
      refine Go.statW X221 hx hZ hEL C221.1 hS hk hown (hw _ (List.mem_of_getElem? (i := 13) rfl)) (hw _ (List.mem_of_getElem? (i := 14) rfl)) (hw _ (List.mem_of_getElem? (i := 2) rfl)) (hw _ (List.mem_of_getElem? (i := 15) rfl)) (by decide) (argsL := [(.int ((XT.ushr p0 (6 : Int32)) &&& (3 : Int32))), (.int r3), (.int r4)]) (rest := [u221, u219, (.int (1 : Int32)), (.ref a157), (.ref a157)]) (rmMK l Z a0 hw ((XT.ushr p0 (6 : Int32)) &&& (3 : Int32)) r3 r4 T221.heap n0 Z221 cs f225 hcs lo3 lo4) eh221 rfl (by rw [hml]; rfl) pd__III_Ljava_lang_String_ rfl (hb hby at_189) 5 (by simp [own_cat_r, own_cat_i, own_cat_n, own_cat_j, own_cat_d, XT.cat1 hu_u221, XT.cat1 hu219]) (by decide) (by decide) (by decide) (by decide) ?_
      intro v226 T226 L226 X226 hQ226 A226 hS
      have hk : T226.heap.size ≤ T226.heap.size := Nat.le_refl _
      have hZ := own_hZ hZ0 hS
      have hown := own_hown hown0 hS
      have f229 := (StrIs.keep f223 K221' all0)
      have f230 := (StrIs.keep f224 K221' all0)
      obtain ⟨u226, hv226, N226', K226', f226_0, f226_1⟩ := hQ226
      subst hv226
      have N226 := Fr.app N221 N226'
      have Z226 : n0 ≤ T226.heap.size := Nat.le_trans Z221 K226'.1
      have eh226 : T226.heap = T226.heap := rfl
      have C226 := CHr.trans C221 A226
      have hu_u226 := StrIs.isRef f226_1
      show Go pP eE below _ (T226.setTop (mkF m 192 #[.val (.int p0), .val (.int p1), .val (.int p2), .val (.int p3), .val (.int p4), .val (.int (p0 &&& (3 : Int32))), .val (.int ((XT.ushr p0 (2 : Int32)) &&& (3 : Int32))), .val (.int ((XT.ushr p0 (4 : Int32)) &&& (3 : Int32))), .val (.int ((XT.ushr p0 (6 : Int32)) &&& (3 : Int32))), .val (.int (p1 &&& (255 : Int32))), .val (.int ((XT.ushr p1 (8 : Int32)) &&& (255 : Int32))), .val (.int ((XT.ushr p1 (16 : Int32)) &&& (255 : Int32))), .val (.int ((XT.ushr p1 (24 : Int32)) &&& (255 : Int32))), .val (.int r1), .val (.int r2), .val (.int r3), .val (.int r4), .val (.ref a5), .unset, .unset] [u226, u221, u219, (.int (1 : Int32)), (.ref a157), (.ref a157)]))
      refine Go.st (S' := T226.setTop (mkF m 193 #[.val (.int p0), .val (.int p1), .val (.int p2), .val (.int p3), .val (.int p4), .val (.int (p0 &&& (3 : Int32))), .val (.int ((XT.ushr p0 (2 : Int32)) &&& (3 : Int32))), .val (.int ((XT.ushr p0 (4 : Int32)) &&& (3 : Int32))), .val (.int ((XT.ushr p0 (6 : Int32)) &&& (3 : Int32))), .val (.int (p1 &&& (255 : Int32))), .val (.int ((XT.ushr p1 (8 : Int32)) &&& (255 : Int32))), .val (.int ((XT.ushr p1 (16 : Int32)) &&& (255 : Int32))), .val (.int ((XT.ushr p1 (24 : Int32)) &&& (255 : Int32))), .val (.int r1), .val (.int r2), .val (.int r3), .val (.int r4), .val (.ref a5), .unset, .unset] [.null, u226, u221, u219, (.int (1 : Int32)), (.ref a157), (.ref a157)])) (fun t kt => XS.aconstNull X226.here hx rfl (hb hby at_192) kt) ?_
      have f231 := (f228.keep K226')
      have f232 := ((F157_descendants.keep K221' nin0).keep K226' nin0)
      have f233 := ((F157_kind.keep K221' nin0).keep K226' nin0)
      have f234 := ((F157_namespaceUri.keep K221' nin0).keep K226' nin0)
      have f235 := ((F157_localName.keep K221' nin0).keep K226' nin0)
      have f236 := ((F157_predicates.keep K221' nin0).keep K226' nin0)
      refine Go.init X226 hx hZ rfl hown (hw _ (List.mem_of_getElem? (i := 16) rfl)) (hw _ (List.mem_of_getElem? (i := 17) rfl)) (hw _ (List.mem_of_getElem? (i := 18) rfl)) (hw _ (List.mem_of_getElem? (i := 6) rfl)) (by decide) (b := a157) (argsL := [(.int (1 : Int32)), u219, u221, u226, .null]) (rest := [(.ref a157)]) (rmSI1 l Z a0 hw a157 u219 u221 u226 hu219 hu_u221 hu_u226 T226.heap n0 Z226 f231 (Nat.le_trans Z155 (Nat.le_of_eq g157.symm)) f232 f233 f234 f235 f236) eh226 rfl (by rw [hml]; rfl) pd__ZLcom_example_sunder_sunder_query_Step_Kind_Ljava_lang_String_Ljava_lang_String_Ljava_util_List__V rfl (hb hby at_193) 1 (Nat.le_refl _) (by decide) (by decide) (by decide) (by decide) ?_
      intro v237 T237 L237 X237 hQ237
      have f238 := (f227.keep K226')
      have f239 := (CHr.safe A226 f228.lt (CHr.safe A221 A157.lt (Safe.ext E157 C155.1 S157)))
      obtain ⟨hv237, N237', K237', f237_0, f237_1, f237_2⟩ := hQ237
      subst hv237
      have N237 := Fr.app N226 N237'
      have Z237 : n0 ≤ T237.heap.size := Nat.le_trans Z226 K237'.1
      have eh237 : T237.heap = T237.heap := rfl
      have C237 := CHr.trans C226 (CHr.keep K237' (allS f239 all0) C226.1)
      have hk := Nat.le_trans hk K237'.1
      show Go pP eE below _ (T237.setTop (mkF m 196 #[.val (.int p0), .val (.int p1), .val (.int p2), .val (.int p3), .val (.int p4), .val (.int (p0 &&& (3 : Int32))), .val (.int ((XT.ushr p0 (2 : Int32)) &&& (3 : Int32))), .val (.int ((XT.ushr p0 (4 : Int32)) &&& (3 : Int32))), .val (.int ((XT.ushr p0 (6 : Int32)) &&& (3 : Int32))), .val (.int (p1 &&& (255 : Int32))), .val (.int ((XT.ushr p1 (8 : Int32)) &&& (255 : Int32))), .val (.int ((XT.ushr p1 (16 : Int32)) &&& (255 : Int32))), .val (.int ((XT.ushr p1 (24 : Int32)) &&& (255 : Int32))), .val (.int r1), .val (.int r2), .val (.int r3), .val (.int r4), .val (.ref a5), .unset, .unset] [(.ref a157)]))
      refine Go.st (S' := T237.setTop (mkF m 198 #[.val (.int p0), .val (.int p1), .val (.int p2), .val (.int p3), .val (.int p4), .val (.int (p0 &&& (3 : Int32))), .val (.int ((XT.ushr p0 (2 : Int32)) &&& (3 : Int32))), .val (.int ((XT.ushr p0 (4 : Int32)) &&& (3 : Int32))), .val (.int ((XT.ushr p0 (6 : Int32)) &&& (3 : Int32))), .val (.int (p1 &&& (255 : Int32))), .val (.int ((XT.ushr p1 (8 : Int32)) &&& (255 : Int32))), .val (.int ((XT.ushr p1 (16 : Int32)) &&& (255 : Int32))), .val (.int ((XT.ushr p1 (24 : Int32)) &&& (255 : Int32))), .val (.int r1), .val (.int r2), .val (.int r3), .val (.int r4), .val (.ref a5), .val (.ref a157), .unset] [])) (fun t kt => XS.astore X237.here hx rfl (hb hby at_196) rfl rfl rfl kt) ?_
      refine Go.st (S' := T237.setTop (mkF m 200 #[.val (.int p0), .val (.int p1), .val (.int p2), .val (.int p3), .val (.int p4), .val (.int (p0 &&& (3 : Int32))), .val (.int ((XT.ushr p0 (2 : Int32)) &&& (3 : Int32))), .val (.int ((XT.ushr p0 (4 : Int32)) &&& (3 : Int32))), .val (.int ((XT.ushr p0 (6 : Int32)) &&& (3 : Int32))), .val (.int (p1 &&& (255 : Int32))), .val (.int ((XT.ushr p1 (8 : Int32)) &&& (255 : Int32))), .val (.int ((XT.ushr p1 (16 : Int32)) &&& (255 : Int32))), .val (.int ((XT.ushr p1 (24 : Int32)) &&& (255 : Int32))), .val (.int r1), .val (.int r2), .val (.int r3), .val (.int r4), .val (.ref a5), .val (.ref a157), .unset] [(.int (p0 &&& (3 : Int32)))])) (fun t kt => XS.iload X237.here hx rfl (hb hby at_198) rfl kt) ?_
      refine Go.st (S' := T237.setTop (mkF m 202 #[.val (.int p0), .val (.int p1), .val (.int p2), .val (.int p3), .val (.int p4), .val (.int (p0 &&& (3 : Int32))), .val (.int ((XT.ushr p0 (2 : Int32)) &&& (3 : Int32))), .val (.int ((XT.ushr p0 (4 : Int32)) &&& (3 : Int32))), .val (.int ((XT.ushr p0 (6 : Int32)) &&& (3 : Int32))), .val (.int (p1 &&& (255 : Int32))), .val (.int ((XT.ushr p1 (8 : Int32)) &&& (255 : Int32))), .val (.int ((XT.ushr p1 (16 : Int32)) &&& (255 : Int32))), .val (.int ((XT.ushr p1 (24 : Int32)) &&& (255 : Int32))), .val (.int r1), .val (.int r2), .val (.int r3), .val (.int r4), .val (.ref a5), .val (.ref a157), .unset] [(.int (p1 &&& (255 : Int32))), (.int (p0 &&& (3 : Int32)))])) (fun t kt => XS.iload X237.here hx rfl (hb hby at_200) rfl kt) ?_
      refine Go.st (S' := T237.setTop (mkF m 204 #[.val (.int p0), .val (.int p1), .val (.int p2), .val (.int p3), .val (.int p4), .val (.int (p0 &&& (3 : Int32))), .val (.int ((XT.ushr p0 (2 : Int32)) &&& (3 : Int32))), .val (.int ((XT.ushr p0 (4 : Int32)) &&& (3 : Int32))), .val (.int ((XT.ushr p0 (6 : Int32)) &&& (3 : Int32))), .val (.int (p1 &&& (255 : Int32))), .val (.int ((XT.ushr p1 (8 : Int32)) &&& (255 : Int32))), .val (.int ((XT.ushr p1 (16 : Int32)) &&& (255 : Int32))), .val (.int ((XT.ushr p1 (24 : Int32)) &&& (255 : Int32))), .val (.int r1), .val (.int r2), .val (.int r3), .val (.int r4), .val (.ref a5), .val (.ref a157), .unset] [(.int ((XT.ushr p1 (8 : Int32)) &&& (255 : Int32))), (.int (p1 &&& (255 : Int32))), (.int (p0 &&& (3 : Int32)))])) (fun t kt => XS.iload X237.here hx rfl (hb hby at_202) rfl kt) ?_
      refine Go.st (S' := T237.setTop (mkF m 206 #[.val (.int p0), .val (.int p1), .val (.int p2), .val (.int p3), .val (.int p4), .val (.int (p0 &&& (3 : Int32))), .val (.int ((XT.ushr p0 (2 : Int32)) &&& (3 : Int32))), .val (.int ((XT.ushr p0 (4 : Int32)) &&& (3 : Int32))), .val (.int ((XT.ushr p0 (6 : Int32)) &&& (3 : Int32))), .val (.int (p1 &&& (255 : Int32))), .val (.int ((XT.ushr p1 (8 : Int32)) &&& (255 : Int32))), .val (.int ((XT.ushr p1 (16 : Int32)) &&& (255 : Int32))), .val (.int ((XT.ushr p1 (24 : Int32)) &&& (255 : Int32))), .val (.int r1), .val (.int r2), .val (.int r3), .val (.int r4), .val (.ref a5), .val (.ref a157), .unset] [(.int ((XT.ushr p0 (4 : Int32)) &&& (3 : Int32))), (.int ((XT.ushr p1 (8 : Int32)) &&& (255 : Int32))), (.int (p1 &&& (255 : Int32))), (.int (p0 &&& (3 : Int32)))])) (fun t kt => XS.iload X237.here hx rfl (hb hby at_204) rfl kt) ?_
      refine Go.st (S' := T237.setTop (mkF m 208 #[.val (.int p0), .val (.int p1), .val (.int p2), .val (.int p3), .val (.int p4), .val (.int (p0 &&& (3 : Int32))), .val (.int ((XT.ushr p0 (2 : Int32)) &&& (3 : Int32))), .val (.int ((XT.ushr p0 (4 : Int32)) &&& (3 : Int32))), .val (.int ((XT.ushr p0 (6 : Int32)) &&& (3 : Int32))), .val (.int (p1 &&& (255 : Int32))), .val (.int ((XT.ushr p1 (8 : Int32)) &&& (255 : Int32))), .val (.int ((XT.ushr p1 (16 : Int32)) &&& (255 : Int32))), .val (.int ((XT.ushr p1 (24 : Int32)) &&& (255 : Int32))), .val (.int r1), .val (.int r2), .val (.int r3), .val (.int r4), .val (.ref a5), .val (.ref a157), .unset] [(.int r1), (.int ((XT.ushr p0 (4 : Int32)) &&& (3 : Int32))), (.int ((XT.ushr p1 (8 : Int32)) &&& (255 : Int32))), (.int (p1 &&& (255 : Int32))), (.int (p0 &&& (3 : Int32)))])) (fun t kt => XS.iload X237.here hx rfl (hb hby at_206) rfl kt) ?_
      refine Go.st (S' := T237.setTop (mkF m 210 #[.val (.int p0), .val (.int p1), .val (.int p2), .val (.int p3), .val (.int p4), .val (.int (p0 &&& (3 : Int32))), .val (.int ((XT.ushr p0 (2 : Int32)) &&& (3 : Int32))), .val (.int ((XT.ushr p0 (4 : Int32)) &&& (3 : Int32))), .val (.int ((XT.ushr p0 (6 : Int32)) &&& (3 : Int32))), .val (.int (p1 &&& (255 : Int32))), .val (.int ((XT.ushr p1 (8 : Int32)) &&& (255 : Int32))), .val (.int ((XT.ushr p1 (16 : Int32)) &&& (255 : Int32))), .val (.int ((XT.ushr p1 (24 : Int32)) &&& (255 : Int32))), .val (.int r1), .val (.int r2), .val (.int r3), .val (.int r4), .val (.ref a5), .val (.ref a157), .unset] [(.int r2), (.int r1), (.int ((XT.ushr p0 (4 : Int32)) &&& (3 : Int32))), (.int ((XT.ushr p1 (8 : Int32)) &&& (255 : Int32))), (.int (p1 &&& (255 : Int32))), (.int (p0 &&& (3 : Int32)))])) (fun t kt => XS.iload X237.here hx rfl (hb hby at_208) rfl kt) ?_
      refine Go.stat X237 hx hZ hown (hw _ (List.mem_of_getElem? (i := 37) rfl)) (hw _ (List.mem_of_getElem? (i := 38) rfl)) (hw _ (List.mem_of_getElem? (i := 2) rfl)) (hw _ (List.mem_of_getElem? (i := 39) rfl)) (by decide) (argsL := [(.int (p0 &&& (3 : Int32))), (.int (p1 &&& (255 : Int32))), (.int ((XT.ushr p1 (8 : Int32)) &&& (255 : Int32))), (.int ((XT.ushr p0 (4 : Int32)) &&& (3 : Int32))), (.int r1), (.int r2)]) (rest := []) (rmCV l Z a0 hw (p0 &&& (3 : Int32)) (p1 &&& (255 : Int32)) ((XT.ushr p1 (8 : Int32)) &&& (255 : Int32)) ((XT.ushr p0 (4 : Int32)) &&& (3 : Int32)) r1 r2 T237.heap n0 Z237) eh237 rfl (by rw [hml]; rfl) pd__IIIIII_Z rfl (hb hby at_210) 0 (Nat.le_refl _) (by decide) (by decide) (by decide) (by decide) ?_
      intro v240 T240 L240 X240 hQ240
      obtain ⟨hv240, N240', e240⟩ := hQ240
      subst hv240
      have N240 := Fr.app N237 N240'
      show Go pP eE below _ (T240.setTop (mkF m 213 #[.val (.int p0), .val (.int p1), .val (.int p2), .val (.int p3), .val (.int p4), .val (.int (p0 &&& (3 : Int32))), .val (.int ((XT.ushr p0 (2 : Int32)) &&& (3 : Int32))), .val (.int ((XT.ushr p0 (4 : Int32)) &&& (3 : Int32))), .val (.int ((XT.ushr p0 (6 : Int32)) &&& (3 : Int32))), .val (.int (p1 &&& (255 : Int32))), .val (.int ((XT.ushr p1 (8 : Int32)) &&& (255 : Int32))), .val (.int ((XT.ushr p1 (16 : Int32)) &&& (255 : Int32))), .val (.int ((XT.ushr p1 (24 : Int32)) &&& (255 : Int32))), .val (.int r1), .val (.int r2), .val (.int r3), .val (.int r4), .val (.ref a5), .val (.ref a157), .unset] [(.int (own_cov (p0 &&& (3 : Int32)) (p1 &&& (255 : Int32)) ((XT.ushr p1 (8 : Int32)) &&& (255 : Int32)) ((XT.ushr p0 (4 : Int32)) &&& (3 : Int32)) r1 r2))]))
      by_cases hc213_241 : (own_cov (p0 &&& (3 : Int32)) (p1 &&& (255 : Int32)) ((XT.ushr p1 (8 : Int32)) &&& (255 : Int32)) ((XT.ushr p0 (4 : Int32)) &&& (3 : Int32)) r1 r2) = 0
      · refine Go.st (S' := T240.setTop (mkF m 238 #[.val (.int p0), .val (.int p1), .val (.int p2), .val (.int p3), .val (.int p4), .val (.int (p0 &&& (3 : Int32))), .val (.int ((XT.ushr p0 (2 : Int32)) &&& (3 : Int32))), .val (.int ((XT.ushr p0 (4 : Int32)) &&& (3 : Int32))), .val (.int ((XT.ushr p0 (6 : Int32)) &&& (3 : Int32))), .val (.int (p1 &&& (255 : Int32))), .val (.int ((XT.ushr p1 (8 : Int32)) &&& (255 : Int32))), .val (.int ((XT.ushr p1 (16 : Int32)) &&& (255 : Int32))), .val (.int ((XT.ushr p1 (24 : Int32)) &&& (255 : Int32))), .val (.int r1), .val (.int r2), .val (.int r3), .val (.int r4), .val (.ref a5), .val (.ref a157), .unset] [])) (fun t kt => XS.ifYes X240.here hx rfl (pc0 := 213) (pc' := 238) rfl (hb hby at_213) rfl (XT.i0_eq_t hc213_241) (by decide) (by decide) kt) ?_
        refine Go.st (S' := T240.setTop (mkF m 239 #[.val (.int p0), .val (.int p1), .val (.int p2), .val (.int p3), .val (.int p4), .val (.int (p0 &&& (3 : Int32))), .val (.int ((XT.ushr p0 (2 : Int32)) &&& (3 : Int32))), .val (.int ((XT.ushr p0 (4 : Int32)) &&& (3 : Int32))), .val (.int ((XT.ushr p0 (6 : Int32)) &&& (3 : Int32))), .val (.int (p1 &&& (255 : Int32))), .val (.int ((XT.ushr p1 (8 : Int32)) &&& (255 : Int32))), .val (.int ((XT.ushr p1 (16 : Int32)) &&& (255 : Int32))), .val (.int ((XT.ushr p1 (24 : Int32)) &&& (255 : Int32))), .val (.int r1), .val (.int r2), .val (.int r3), .val (.int r4), .val (.ref a5), .val (.ref a157), .unset] [(.int (0 : Int32))])) (fun t kt => XS.iconst X240.here hx rfl (hb hby at_238) kt) ?_
        refine Go.st (S' := T240.setTop (mkF m 241 #[.val (.int p0), .val (.int p1), .val (.int p2), .val (.int p3), .val (.int p4), .val (.int (p0 &&& (3 : Int32))), .val (.int ((XT.ushr p0 (2 : Int32)) &&& (3 : Int32))), .val (.int ((XT.ushr p0 (4 : Int32)) &&& (3 : Int32))), .val (.int ((XT.ushr p0 (6 : Int32)) &&& (3 : Int32))), .val (.int (p1 &&& (255 : Int32))), .val (.int ((XT.ushr p1 (8 : Int32)) &&& (255 : Int32))), .val (.int ((XT.ushr p1 (16 : Int32)) &&& (255 : Int32))), .val (.int ((XT.ushr p1 (24 : Int32)) &&& (255 : Int32))), .val (.int r1), .val (.int r2), .val (.int r3), .val (.int r4), .val (.ref a5), .val (.ref a157), .val (.int (0 : Int32))] [])) (fun t kt => XS.istore X240.here hx rfl (hb hby at_239) rfl rfl kt) ?_
        refine Go.st (S' := T240.setTop (mkF m 243 #[.val (.int p0), .val (.int p1), .val (.int p2), .val (.int p3), .val (.int p4), .val (.int (p0 &&& (3 : Int32))), .val (.int ((XT.ushr p0 (2 : Int32)) &&& (3 : Int32))), .val (.int ((XT.ushr p0 (4 : Int32)) &&& (3 : Int32))), .val (.int ((XT.ushr p0 (6 : Int32)) &&& (3 : Int32))), .val (.int (p1 &&& (255 : Int32))), .val (.int ((XT.ushr p1 (8 : Int32)) &&& (255 : Int32))), .val (.int ((XT.ushr p1 (16 : Int32)) &&& (255 : Int32))), .val (.int ((XT.ushr p1 (24 : Int32)) &&& (255 : Int32))), .val (.int r1), .val (.int r2), .val (.int r3), .val (.int r4), .val (.ref a5), .val (.ref a157), .val (.int (0 : Int32))] [(.ref a5)])) (fun t kt => XS.aload X240.here hx rfl (hb hby at_241) rfl rfl kt) ?_
        refine Go.st (S' := T240.setTop (mkF m 245 #[.val (.int p0), .val (.int p1), .val (.int p2), .val (.int p3), .val (.int p4), .val (.int (p0 &&& (3 : Int32))), .val (.int ((XT.ushr p0 (2 : Int32)) &&& (3 : Int32))), .val (.int ((XT.ushr p0 (4 : Int32)) &&& (3 : Int32))), .val (.int ((XT.ushr p0 (6 : Int32)) &&& (3 : Int32))), .val (.int (p1 &&& (255 : Int32))), .val (.int ((XT.ushr p1 (8 : Int32)) &&& (255 : Int32))), .val (.int ((XT.ushr p1 (16 : Int32)) &&& (255 : Int32))), .val (.int ((XT.ushr p1 (24 : Int32)) &&& (255 : Int32))), .val (.int r1), .val (.int r2), .val (.int r3), .val (.int r4), .val (.ref a5), .val (.ref a157), .val (.int (0 : Int32))] [(.ref a157), (.ref a5)])) (fun t kt => XS.aload X240.here hx rfl (hb hby at_243) rfl rfl kt) ?_
        have f242 := (own_sta_keep (own_sta_keep f225 K226' all0) K237' (allS (own_obj_exa f231) all0))
        have f243 := (f238.keep K237')
        have f244 := ((((f155_1.ext E157).keep K221' nin0).keep K226' nin0).keep K237' (ninS (Nat.ne_of_lt (by rw [g157]; exact f155_0.lt)) nin0))
        have f245 := ((((f155_2.ext E157).keep K221' nin0).keep K226' nin0).keep K237' (ninS (Nat.ne_of_lt (by rw [g157]; exact f155_0.lt)) nin0))
        have f246 := (StrIs.keep (StrIs.keep f229 K226' all0) K237' (allS (own_nostr f231 (by decide) (hw _ (List.mem_of_getElem? (i := 5) rfl))) all0))
        have f247 := (StrIs.keep (StrIs.keep f230 K226' all0) K237' (allS (own_nostr f231 (by decide) (hw _ (List.mem_of_getElem? (i := 5) rfl))) all0))
        have f248 := (StrIs.keep (StrIs.keep f221_1 K226' all0) K237' (allS (own_nostr f231 (by decide) (hw _ (List.mem_of_getElem? (i := 5) rfl))) all0))
        have f249 := (StrIs.keep f226_1 K237' (allS (own_nostr f231 (by decide) (hw _ (List.mem_of_getElem? (i := 5) rfl))) all0))
        refine Go.virt X240 hx hZ hown (hw _ (List.mem_of_getElem? (i := 40) rfl)) (hw _ (List.mem_of_getElem? (i := 41) rfl)) (notFace_of_selects (mvT (args := #[]) hZ (hw _ (List.mem_of_getElem? (i := 43) rfl)))) (hw _ (List.mem_of_getElem? (i := 43) rfl)) (hw _ (List.mem_of_getElem? (i := 42) rfl)) (hw _ (List.mem_of_getElem? (i := 44) rfl)) (hw _ (List.mem_of_getElem? (i := 6) rfl)) (by decide) (b := a5) (argsL := [(.ref a157)]) (rest := []) (rmAE l Z a0 hw a5 a157 u145 u147 u221 u226 (own_co (p0 &&& (3 : Int32)) (p1 &&& (255 : Int32)) ((XT.ushr p1 (8 : Int32)) &&& (255 : Int32))) (own_co ((XT.ushr p0 (2 : Int32)) &&& (3 : Int32)) ((XT.ushr p1 (16 : Int32)) &&& (255 : Int32)) ((XT.ushr p1 (24 : Int32)) &&& (255 : Int32))) (own_co ((XT.ushr p0 (4 : Int32)) &&& (3 : Int32)) r1 r2) (own_co ((XT.ushr p0 (6 : Int32)) &&& (3 : Int32)) r3 r4) T237.heap n0 Z237 cs f242 hcs f243 f244 f245 f237_1 f237_2 hu_u221 hu_u226 f246 f247 f248 f249 (StrIs.sep f223 f221_0) (StrIs.sep f230 f226_0)) e240 f243 rfl (by rw [hml]; rfl) pd__Lcom_example_sunder_sunder_query_Step__Z rfl (hb hby at_245) 0 (Nat.le_refl _) (by decide) (by decide) (by decide) (by decide) ?_
        intro v250 T250 L250 X250 hQ250
        obtain ⟨hv250, N250', e250⟩ := hQ250
        subst hv250
        have N250 := Fr.app N240 N250'
        show Go pP eE below _ (T250.setTop (mkF m 248 #[.val (.int p0), .val (.int p1), .val (.int p2), .val (.int p3), .val (.int p4), .val (.int (p0 &&& (3 : Int32))), .val (.int ((XT.ushr p0 (2 : Int32)) &&& (3 : Int32))), .val (.int ((XT.ushr p0 (4 : Int32)) &&& (3 : Int32))), .val (.int ((XT.ushr p0 (6 : Int32)) &&& (3 : Int32))), .val (.int (p1 &&& (255 : Int32))), .val (.int ((XT.ushr p1 (8 : Int32)) &&& (255 : Int32))), .val (.int ((XT.ushr p1 (16 : Int32)) &&& (255 : Int32))), .val (.int ((XT.ushr p1 (24 : Int32)) &&& (255 : Int32))), .val (.int r1), .val (.int r2), .val (.int r3), .val (.int r4), .val (.ref a5), .val (.ref a157), .val (.int (0 : Int32))] [(.int (own_adm (own_co (p0 &&& (3 : Int32)) (p1 &&& (255 : Int32)) ((XT.ushr p1 (8 : Int32)) &&& (255 : Int32))) (own_co ((XT.ushr p0 (2 : Int32)) &&& (3 : Int32)) ((XT.ushr p1 (16 : Int32)) &&& (255 : Int32)) ((XT.ushr p1 (24 : Int32)) &&& (255 : Int32))) (own_co ((XT.ushr p0 (4 : Int32)) &&& (3 : Int32)) r1 r2) (own_co ((XT.ushr p0 (6 : Int32)) &&& (3 : Int32)) r3 r4)))]))
        refine Go.st (S' := T250.setTop (mkF m 250 #[.val (.int p0), .val (.int p1), .val (.int p2), .val (.int p3), .val (.int p4), .val (.int (p0 &&& (3 : Int32))), .val (.int ((XT.ushr p0 (2 : Int32)) &&& (3 : Int32))), .val (.int ((XT.ushr p0 (4 : Int32)) &&& (3 : Int32))), .val (.int ((XT.ushr p0 (6 : Int32)) &&& (3 : Int32))), .val (.int (p1 &&& (255 : Int32))), .val (.int ((XT.ushr p1 (8 : Int32)) &&& (255 : Int32))), .val (.int ((XT.ushr p1 (16 : Int32)) &&& (255 : Int32))), .val (.int ((XT.ushr p1 (24 : Int32)) &&& (255 : Int32))), .val (.int r1), .val (.int r2), .val (.int r3), .val (.int r4), .val (.ref a5), .val (.ref a157), .val (.int (0 : Int32))] [(.int (0 : Int32)), (.int (own_adm (own_co (p0 &&& (3 : Int32)) (p1 &&& (255 : Int32)) ((XT.ushr p1 (8 : Int32)) &&& (255 : Int32))) (own_co ((XT.ushr p0 (2 : Int32)) &&& (3 : Int32)) ((XT.ushr p1 (16 : Int32)) &&& (255 : Int32)) ((XT.ushr p1 (24 : Int32)) &&& (255 : Int32))) (own_co ((XT.ushr p0 (4 : Int32)) &&& (3 : Int32)) r1 r2) (own_co ((XT.ushr p0 (6 : Int32)) &&& (3 : Int32)) r3 r4)))])) (fun t kt => XS.iload X250.here hx rfl (hb hby at_248) rfl kt) ?_
        refine Go.st (S' := T250.setTop (mkF m 253 #[.val (.int p0), .val (.int p1), .val (.int p2), .val (.int p3), .val (.int p4), .val (.int (p0 &&& (3 : Int32))), .val (.int ((XT.ushr p0 (2 : Int32)) &&& (3 : Int32))), .val (.int ((XT.ushr p0 (4 : Int32)) &&& (3 : Int32))), .val (.int ((XT.ushr p0 (6 : Int32)) &&& (3 : Int32))), .val (.int (p1 &&& (255 : Int32))), .val (.int ((XT.ushr p1 (8 : Int32)) &&& (255 : Int32))), .val (.int ((XT.ushr p1 (16 : Int32)) &&& (255 : Int32))), .val (.int ((XT.ushr p1 (24 : Int32)) &&& (255 : Int32))), .val (.int r1), .val (.int r2), .val (.int r3), .val (.int r4), .val (.ref a5), .val (.ref a157), .val (.int (0 : Int32))] [])) (fun t kt => XS.icmpNo X250.here hx rfl (hb hby at_250) rfl (XT.ii_ne_f ((own_fin (own_mask4 _) (own_mask4 _) (own_mask4 _) (own_mask4 _) ⟨_, rfl⟩ ⟨_, rfl⟩ lo1 lo2 ⟨_, rfl⟩ ⟨_, rfl⟩ lo3 lo4).trans (by simp [hc213_241]))) kt) ?_
        refine Go.st (S' := T250.setTop (mkF m 254 #[.val (.int p0), .val (.int p1), .val (.int p2), .val (.int p3), .val (.int p4), .val (.int (p0 &&& (3 : Int32))), .val (.int ((XT.ushr p0 (2 : Int32)) &&& (3 : Int32))), .val (.int ((XT.ushr p0 (4 : Int32)) &&& (3 : Int32))), .val (.int ((XT.ushr p0 (6 : Int32)) &&& (3 : Int32))), .val (.int (p1 &&& (255 : Int32))), .val (.int ((XT.ushr p1 (8 : Int32)) &&& (255 : Int32))), .val (.int ((XT.ushr p1 (16 : Int32)) &&& (255 : Int32))), .val (.int ((XT.ushr p1 (24 : Int32)) &&& (255 : Int32))), .val (.int r1), .val (.int r2), .val (.int r3), .val (.int r4), .val (.ref a5), .val (.ref a157), .val (.int (0 : Int32))] [(.int (1 : Int32))])) (fun t kt => XS.iconst X250.here hx rfl (hb hby at_253) kt) ?_
        refine Go.st (S' := T250.setTop (mkF m 258 #[.val (.int p0), .val (.int p1), .val (.int p2), .val (.int p3), .val (.int p4), .val (.int (p0 &&& (3 : Int32))), .val (.int ((XT.ushr p0 (2 : Int32)) &&& (3 : Int32))), .val (.int ((XT.ushr p0 (4 : Int32)) &&& (3 : Int32))), .val (.int ((XT.ushr p0 (6 : Int32)) &&& (3 : Int32))), .val (.int (p1 &&& (255 : Int32))), .val (.int ((XT.ushr p1 (8 : Int32)) &&& (255 : Int32))), .val (.int ((XT.ushr p1 (16 : Int32)) &&& (255 : Int32))), .val (.int ((XT.ushr p1 (24 : Int32)) &&& (255 : Int32))), .val (.int r1), .val (.int r2), .val (.int r3), .val (.int r4), .val (.ref a5), .val (.ref a157), .val (.int (0 : Int32))] [(.int (1 : Int32))])) (fun t kt => XS.goto X250.here hx rfl (pc0 := 254) (pc' := 258) rfl (hb hby at_254) (by decide) (by decide) kt) ?_
        exact retw_b X250 hZ hEL e250 C237 hS hk hx hlk hret (hb hby at_258) (by decide) (by decide) (⟨rfl, N250⟩)
      · refine Go.st (S' := T240.setTop (mkF m 216 #[.val (.int p0), .val (.int p1), .val (.int p2), .val (.int p3), .val (.int p4), .val (.int (p0 &&& (3 : Int32))), .val (.int ((XT.ushr p0 (2 : Int32)) &&& (3 : Int32))), .val (.int ((XT.ushr p0 (4 : Int32)) &&& (3 : Int32))), .val (.int ((XT.ushr p0 (6 : Int32)) &&& (3 : Int32))), .val (.int (p1 &&& (255 : Int32))), .val (.int ((XT.ushr p1 (8 : Int32)) &&& (255 : Int32))), .val (.int ((XT.ushr p1 (16 : Int32)) &&& (255 : Int32))), .val (.int ((XT.ushr p1 (24 : Int32)) &&& (255 : Int32))), .val (.int r1), .val (.int r2), .val (.int r3), .val (.int r4), .val (.ref a5), .val (.ref a157), .unset] [])) (fun t kt => XS.ifNo X240.here hx rfl (hb hby at_213) rfl (XT.i0_eq_f hc213_241) kt) ?_
        refine Go.st (S' := T240.setTop (mkF m 218 #[.val (.int p0), .val (.int p1), .val (.int p2), .val (.int p3), .val (.int p4), .val (.int (p0 &&& (3 : Int32))), .val (.int ((XT.ushr p0 (2 : Int32)) &&& (3 : Int32))), .val (.int ((XT.ushr p0 (4 : Int32)) &&& (3 : Int32))), .val (.int ((XT.ushr p0 (6 : Int32)) &&& (3 : Int32))), .val (.int (p1 &&& (255 : Int32))), .val (.int ((XT.ushr p1 (8 : Int32)) &&& (255 : Int32))), .val (.int ((XT.ushr p1 (16 : Int32)) &&& (255 : Int32))), .val (.int ((XT.ushr p1 (24 : Int32)) &&& (255 : Int32))), .val (.int r1), .val (.int r2), .val (.int r3), .val (.int r4), .val (.ref a5), .val (.ref a157), .unset] [(.int ((XT.ushr p0 (2 : Int32)) &&& (3 : Int32)))])) (fun t kt => XS.iload X240.here hx rfl (hb hby at_216) rfl kt) ?_
        refine Go.st (S' := T240.setTop (mkF m 220 #[.val (.int p0), .val (.int p1), .val (.int p2), .val (.int p3), .val (.int p4), .val (.int (p0 &&& (3 : Int32))), .val (.int ((XT.ushr p0 (2 : Int32)) &&& (3 : Int32))), .val (.int ((XT.ushr p0 (4 : Int32)) &&& (3 : Int32))), .val (.int ((XT.ushr p0 (6 : Int32)) &&& (3 : Int32))), .val (.int (p1 &&& (255 : Int32))), .val (.int ((XT.ushr p1 (8 : Int32)) &&& (255 : Int32))), .val (.int ((XT.ushr p1 (16 : Int32)) &&& (255 : Int32))), .val (.int ((XT.ushr p1 (24 : Int32)) &&& (255 : Int32))), .val (.int r1), .val (.int r2), .val (.int r3), .val (.int r4), .val (.ref a5), .val (.ref a157), .unset] [(.int ((XT.ushr p1 (16 : Int32)) &&& (255 : Int32))), (.int ((XT.ushr p0 (2 : Int32)) &&& (3 : Int32)))])) (fun t kt => XS.iload X240.here hx rfl (hb hby at_218) rfl kt) ?_
        refine Go.st (S' := T240.setTop (mkF m 222 #[.val (.int p0), .val (.int p1), .val (.int p2), .val (.int p3), .val (.int p4), .val (.int (p0 &&& (3 : Int32))), .val (.int ((XT.ushr p0 (2 : Int32)) &&& (3 : Int32))), .val (.int ((XT.ushr p0 (4 : Int32)) &&& (3 : Int32))), .val (.int ((XT.ushr p0 (6 : Int32)) &&& (3 : Int32))), .val (.int (p1 &&& (255 : Int32))), .val (.int ((XT.ushr p1 (8 : Int32)) &&& (255 : Int32))), .val (.int ((XT.ushr p1 (16 : Int32)) &&& (255 : Int32))), .val (.int ((XT.ushr p1 (24 : Int32)) &&& (255 : Int32))), .val (.int r1), .val (.int r2), .val (.int r3), .val (.int r4), .val (.ref a5), .val (.ref a157), .unset] [(.int ((XT.ushr p1 (24 : Int32)) &&& (255 : Int32))), (.int ((XT.ushr p1 (16 : Int32)) &&& (255 : Int32))), (.int ((XT.ushr p0 (2 : Int32)) &&& (3 : Int32)))])) (fun t kt => XS.iload X240.here hx rfl (hb hby at_220) rfl kt) ?_
        refine Go.st (S' := T240.setTop (mkF m 224 #[.val (.int p0), .val (.int p1), .val (.int p2), .val (.int p3), .val (.int p4), .val (.int (p0 &&& (3 : Int32))), .val (.int ((XT.ushr p0 (2 : Int32)) &&& (3 : Int32))), .val (.int ((XT.ushr p0 (4 : Int32)) &&& (3 : Int32))), .val (.int ((XT.ushr p0 (6 : Int32)) &&& (3 : Int32))), .val (.int (p1 &&& (255 : Int32))), .val (.int ((XT.ushr p1 (8 : Int32)) &&& (255 : Int32))), .val (.int ((XT.ushr p1 (16 : Int32)) &&& (255 : Int32))), .val (.int ((XT.ushr p1 (24 : Int32)) &&& (255 : Int32))), .val (.int r1), .val (.int r2), .val (.int r3), .val (.int r4), .val (.ref a5), .val (.ref a157), .unset] [(.int ((XT.ushr p0 (6 : Int32)) &&& (3 : Int32))), (.int ((XT.ushr p1 (24 : Int32)) &&& (255 : Int32))), (.int ((XT.ushr p1 (16 : Int32)) &&& (255 : Int32))), (.int ((XT.ushr p0 (2 : Int32)) &&& (3 : Int32)))])) (fun t kt => XS.iload X240.here hx rfl (hb hby at_222) rfl kt) ?_
        refine Go.st (S' := T240.setTop (mkF m 226 #[.val (.int p0), .val (.int p1), .val (.int p2), .val (.int p3), .val (.int p4), .val (.int (p0 &&& (3 : Int32))), .val (.int ((XT.ushr p0 (2 : Int32)) &&& (3 : Int32))), .val (.int ((XT.ushr p0 (4 : Int32)) &&& (3 : Int32))), .val (.int ((XT.ushr p0 (6 : Int32)) &&& (3 : Int32))), .val (.int (p1 &&& (255 : Int32))), .val (.int ((XT.ushr p1 (8 : Int32)) &&& (255 : Int32))), .val (.int ((XT.ushr p1 (16 : Int32)) &&& (255 : Int32))), .val (.int ((XT.ushr p1 (24 : Int32)) &&& (255 : Int32))), .val (.int r1), .val (.int r2), .val (.int r3), .val (.int r4), .val (.ref a5), .val (.ref a157), .unset] [(.int r3), (.int ((XT.ushr p0 (6 : Int32)) &&& (3 : Int32))), (.int ((XT.ushr p1 (24 : Int32)) &&& (255 : Int32))), (.int ((XT.ushr p1 (16 : Int32)) &&& (255 : Int32))), (.int ((XT.ushr p0 (2 : Int32)) &&& (3 : Int32)))])) (fun t kt => XS.iload X240.here hx rfl (hb hby at_224) rfl kt) ?_
        refine Go.st (S' := T240.setTop (mkF m 228 #[.val (.int p0), .val (.int p1), .val (.int p2), .val (.int p3), .val (.int p4), .val (.int (p0 &&& (3 : Int32))), .val (.int ((XT.ushr p0 (2 : Int32)) &&& (3 : Int32))), .val (.int ((XT.ushr p0 (4 : Int32)) &&& (3 : Int32))), .val (.int ((XT.ushr p0 (6 : Int32)) &&& (3 : Int32))), .val (.int (p1 &&& (255 : Int32))), .val (.int ((XT.ushr p1 (8 : Int32)) &&& (255 : Int32))), .val (.int ((XT.ushr p1 (16 : Int32)) &&& (255 : Int32))), .val (.int ((XT.ushr p1 (24 : Int32)) &&& (255 : Int32))), .val (.int r1), .val (.int r2), .val (.int r3), .val (.int r4), .val (.ref a5), .val (.ref a157), .unset] [(.int r4), (.int r3), (.int ((XT.ushr p0 (6 : Int32)) &&& (3 : Int32))), (.int ((XT.ushr p1 (24 : Int32)) &&& (255 : Int32))), (.int ((XT.ushr p1 (16 : Int32)) &&& (255 : Int32))), (.int ((XT.ushr p0 (2 : Int32)) &&& (3 : Int32)))])) (fun t kt => XS.iload X240.here hx rfl (hb hby at_226) rfl kt) ?_
        refine Go.stat X240 hx hZ hown (hw _ (List.mem_of_getElem? (i := 37) rfl)) (hw _ (List.mem_of_getElem? (i := 38) rfl)) (hw _ (List.mem_of_getElem? (i := 2) rfl)) (hw _ (List.mem_of_getElem? (i := 39) rfl)) (by decide) (argsL := [(.int ((XT.ushr p0 (2 : Int32)) &&& (3 : Int32))), (.int ((XT.ushr p1 (16 : Int32)) &&& (255 : Int32))), (.int ((XT.ushr p1 (24 : Int32)) &&& (255 : Int32))), (.int ((XT.ushr p0 (6 : Int32)) &&& (3 : Int32))), (.int r3), (.int r4)]) (rest := []) (rmCV l Z a0 hw ((XT.ushr p0 (2 : Int32)) &&& (3 : Int32)) ((XT.ushr p1 (16 : Int32)) &&& (255 : Int32)) ((XT.ushr p1 (24 : Int32)) &&& (255 : Int32)) ((XT.ushr p0 (6 : Int32)) &&& (3 : Int32)) r3 r4 T237.heap n0 Z237) e240 rfl (by rw [hml]; rfl) pd__IIIIII_Z rfl (hb hby at_228) 0 (Nat.le_refl _) (by decide) (by decide) (by decide) (by decide) ?_
        intro v251 T251 L251 X251 hQ251
        obtain ⟨hv251, N251', e251⟩ := hQ251
        subst hv251
        have N251 := Fr.app N240 N251'
        show Go pP eE below _ (T251.setTop (mkF m 231 #[.val (.int p0), .val (.int p1), .val (.int p2), .val (.int p3), .val (.int p4), .val (.int (p0 &&& (3 : Int32))), .val (.int ((XT.ushr p0 (2 : Int32)) &&& (3 : Int32))), .val (.int ((XT.ushr p0 (4 : Int32)) &&& (3 : Int32))), .val (.int ((XT.ushr p0 (6 : Int32)) &&& (3 : Int32))), .val (.int (p1 &&& (255 : Int32))), .val (.int ((XT.ushr p1 (8 : Int32)) &&& (255 : Int32))), .val (.int ((XT.ushr p1 (16 : Int32)) &&& (255 : Int32))), .val (.int ((XT.ushr p1 (24 : Int32)) &&& (255 : Int32))), .val (.int r1), .val (.int r2), .val (.int r3), .val (.int r4), .val (.ref a5), .val (.ref a157), .unset] [(.int (own_cov ((XT.ushr p0 (2 : Int32)) &&& (3 : Int32)) ((XT.ushr p1 (16 : Int32)) &&& (255 : Int32)) ((XT.ushr p1 (24 : Int32)) &&& (255 : Int32)) ((XT.ushr p0 (6 : Int32)) &&& (3 : Int32)) r3 r4))]))
        by_cases hc231_252 : (own_cov ((XT.ushr p0 (2 : Int32)) &&& (3 : Int32)) ((XT.ushr p1 (16 : Int32)) &&& (255 : Int32)) ((XT.ushr p1 (24 : Int32)) &&& (255 : Int32)) ((XT.ushr p0 (6 : Int32)) &&& (3 : Int32)) r3 r4) = 0
        · refine Go.st (S' := T251.setTop (mkF m 238 #[.val (.int p0), .val (.int p1), .val (.int p2), .val (.int p3), .val (.int p4), .val (.int (p0 &&& (3 : Int32))), .val (.int ((XT.ushr p0 (2 : Int32)) &&& (3 : Int32))), .val (.int ((XT.ushr p0 (4 : Int32)) &&& (3 : Int32))), .val (.int ((XT.ushr p0 (6 : Int32)) &&& (3 : Int32))), .val (.int (p1 &&& (255 : Int32))), .val (.int ((XT.ushr p1 (8 : Int32)) &&& (255 : Int32))), .val (.int ((XT.ushr p1 (16 : Int32)) &&& (255 : Int32))), .val (.int ((XT.ushr p1 (24 : Int32)) &&& (255 : Int32))), .val (.int r1), .val (.int r2), .val (.int r3), .val (.int r4), .val (.ref a5), .val (.ref a157), .unset] [])) (fun t kt => XS.ifYes X251.here hx rfl (pc0 := 231) (pc' := 238) rfl (hb hby at_231) rfl (XT.i0_eq_t hc231_252) (by decide) (by decide) kt) ?_
          refine Go.st (S' := T251.setTop (mkF m 239 #[.val (.int p0), .val (.int p1), .val (.int p2), .val (.int p3), .val (.int p4), .val (.int (p0 &&& (3 : Int32))), .val (.int ((XT.ushr p0 (2 : Int32)) &&& (3 : Int32))), .val (.int ((XT.ushr p0 (4 : Int32)) &&& (3 : Int32))), .val (.int ((XT.ushr p0 (6 : Int32)) &&& (3 : Int32))), .val (.int (p1 &&& (255 : Int32))), .val (.int ((XT.ushr p1 (8 : Int32)) &&& (255 : Int32))), .val (.int ((XT.ushr p1 (16 : Int32)) &&& (255 : Int32))), .val (.int ((XT.ushr p1 (24 : Int32)) &&& (255 : Int32))), .val (.int r1), .val (.int r2), .val (.int r3), .val (.int r4), .val (.ref a5), .val (.ref a157), .unset] [(.int (0 : Int32))])) (fun t kt => XS.iconst X251.here hx rfl (hb hby at_238) kt) ?_
          refine Go.st (S' := T251.setTop (mkF m 241 #[.val (.int p0), .val (.int p1), .val (.int p2), .val (.int p3), .val (.int p4), .val (.int (p0 &&& (3 : Int32))), .val (.int ((XT.ushr p0 (2 : Int32)) &&& (3 : Int32))), .val (.int ((XT.ushr p0 (4 : Int32)) &&& (3 : Int32))), .val (.int ((XT.ushr p0 (6 : Int32)) &&& (3 : Int32))), .val (.int (p1 &&& (255 : Int32))), .val (.int ((XT.ushr p1 (8 : Int32)) &&& (255 : Int32))), .val (.int ((XT.ushr p1 (16 : Int32)) &&& (255 : Int32))), .val (.int ((XT.ushr p1 (24 : Int32)) &&& (255 : Int32))), .val (.int r1), .val (.int r2), .val (.int r3), .val (.int r4), .val (.ref a5), .val (.ref a157), .val (.int (0 : Int32))] [])) (fun t kt => XS.istore X251.here hx rfl (hb hby at_239) rfl rfl kt) ?_
          refine Go.st (S' := T251.setTop (mkF m 243 #[.val (.int p0), .val (.int p1), .val (.int p2), .val (.int p3), .val (.int p4), .val (.int (p0 &&& (3 : Int32))), .val (.int ((XT.ushr p0 (2 : Int32)) &&& (3 : Int32))), .val (.int ((XT.ushr p0 (4 : Int32)) &&& (3 : Int32))), .val (.int ((XT.ushr p0 (6 : Int32)) &&& (3 : Int32))), .val (.int (p1 &&& (255 : Int32))), .val (.int ((XT.ushr p1 (8 : Int32)) &&& (255 : Int32))), .val (.int ((XT.ushr p1 (16 : Int32)) &&& (255 : Int32))), .val (.int ((XT.ushr p1 (24 : Int32)) &&& (255 : Int32))), .val (.int r1), .val (.int r2), .val (.int r3), .val (.int r4), .val (.ref a5), .val (.ref a157), .val (.int (0 : Int32))] [(.ref a5)])) (fun t kt => XS.aload X251.here hx rfl (hb hby at_241) rfl rfl kt) ?_
          refine Go.st (S' := T251.setTop (mkF m 245 #[.val (.int p0), .val (.int p1), .val (.int p2), .val (.int p3), .val (.int p4), .val (.int (p0 &&& (3 : Int32))), .val (.int ((XT.ushr p0 (2 : Int32)) &&& (3 : Int32))), .val (.int ((XT.ushr p0 (4 : Int32)) &&& (3 : Int32))), .val (.int ((XT.ushr p0 (6 : Int32)) &&& (3 : Int32))), .val (.int (p1 &&& (255 : Int32))), .val (.int ((XT.ushr p1 (8 : Int32)) &&& (255 : Int32))), .val (.int ((XT.ushr p1 (16 : Int32)) &&& (255 : Int32))), .val (.int ((XT.ushr p1 (24 : Int32)) &&& (255 : Int32))), .val (.int r1), .val (.int r2), .val (.int r3), .val (.int r4), .val (.ref a5), .val (.ref a157), .val (.int (0 : Int32))] [(.ref a157), (.ref a5)])) (fun t kt => XS.aload X251.here hx rfl (hb hby at_243) rfl rfl kt) ?_
          have f253 := (own_sta_keep (own_sta_keep f225 K226' all0) K237' (allS (own_obj_exa f231) all0))
          have f254 := (f238.keep K237')
          have f255 := ((((f155_1.ext E157).keep K221' nin0).keep K226' nin0).keep K237' (ninS (Nat.ne_of_lt (by rw [g157]; exact f155_0.lt)) nin0))
          have f256 := ((((f155_2.ext E157).keep K221' nin0).keep K226' nin0).keep K237' (ninS (Nat.ne_of_lt (by rw [g157]; exact f155_0.lt)) nin0))
          have f257 := (StrIs.keep (StrIs.keep f229 K226' all0) K237' (allS (own_nostr f231 (by decide) (hw _ (List.mem_of_getElem? (i := 5) rfl))) all0))
          have f258 := (StrIs.keep (StrIs.keep f230 K226' all0) K237' (allS (own_nostr f231 (by decide) (hw _ (List.mem_of_getElem? (i := 5) rfl))) all0))
          have f259 := (StrIs.keep (StrIs.keep f221_1 K226' all0) K237' (allS (own_nostr f231 (by decide) (hw _ (List.mem_of_getElem? (i := 5) rfl))) all0))
          have f260 := (StrIs.keep f226_1 K237' (allS (own_nostr f231 (by decide) (hw _ (List.mem_of_getElem? (i := 5) rfl))) all0))
          refine Go.virt X251 hx hZ hown (hw _ (List.mem_of_getElem? (i := 40) rfl)) (hw _ (List.mem_of_getElem? (i := 41) rfl)) (notFace_of_selects (mvT (args := #[]) hZ (hw _ (List.mem_of_getElem? (i := 43) rfl)))) (hw _ (List.mem_of_getElem? (i := 43) rfl)) (hw _ (List.mem_of_getElem? (i := 42) rfl)) (hw _ (List.mem_of_getElem? (i := 44) rfl)) (hw _ (List.mem_of_getElem? (i := 6) rfl)) (by decide) (b := a5) (argsL := [(.ref a157)]) (rest := []) (rmAE l Z a0 hw a5 a157 u145 u147 u221 u226 (own_co (p0 &&& (3 : Int32)) (p1 &&& (255 : Int32)) ((XT.ushr p1 (8 : Int32)) &&& (255 : Int32))) (own_co ((XT.ushr p0 (2 : Int32)) &&& (3 : Int32)) ((XT.ushr p1 (16 : Int32)) &&& (255 : Int32)) ((XT.ushr p1 (24 : Int32)) &&& (255 : Int32))) (own_co ((XT.ushr p0 (4 : Int32)) &&& (3 : Int32)) r1 r2) (own_co ((XT.ushr p0 (6 : Int32)) &&& (3 : Int32)) r3 r4) T237.heap n0 Z237 cs f253 hcs f254 f255 f256 f237_1 f237_2 hu_u221 hu_u226 f257 f258 f259 f260 (StrIs.sep f223 f221_0) (StrIs.sep f230 f226_0)) e251 f254 rfl (by rw [hml]; rfl) pd__Lcom_example_sunder_sunder_query_Step__Z rfl (hb hby at_245) 0 (Nat.le_refl _) (by decide) (by decide) (by decide) (by decide) ?_
          intro v261 T261 L261 X261 hQ261
          obtain ⟨hv261, N261', e261⟩ := hQ261
          subst hv261
          have N261 := Fr.app N251 N261'
          show Go pP eE below _ (T261.setTop (mkF m 248 #[.val (.int p0), .val (.int p1), .val (.int p2), .val (.int p3), .val (.int p4), .val (.int (p0 &&& (3 : Int32))), .val (.int ((XT.ushr p0 (2 : Int32)) &&& (3 : Int32))), .val (.int ((XT.ushr p0 (4 : Int32)) &&& (3 : Int32))), .val (.int ((XT.ushr p0 (6 : Int32)) &&& (3 : Int32))), .val (.int (p1 &&& (255 : Int32))), .val (.int ((XT.ushr p1 (8 : Int32)) &&& (255 : Int32))), .val (.int ((XT.ushr p1 (16 : Int32)) &&& (255 : Int32))), .val (.int ((XT.ushr p1 (24 : Int32)) &&& (255 : Int32))), .val (.int r1), .val (.int r2), .val (.int r3), .val (.int r4), .val (.ref a5), .val (.ref a157), .val (.int (0 : Int32))] [(.int (own_adm (own_co (p0 &&& (3 : Int32)) (p1 &&& (255 : Int32)) ((XT.ushr p1 (8 : Int32)) &&& (255 : Int32))) (own_co ((XT.ushr p0 (2 : Int32)) &&& (3 : Int32)) ((XT.ushr p1 (16 : Int32)) &&& (255 : Int32)) ((XT.ushr p1 (24 : Int32)) &&& (255 : Int32))) (own_co ((XT.ushr p0 (4 : Int32)) &&& (3 : Int32)) r1 r2) (own_co ((XT.ushr p0 (6 : Int32)) &&& (3 : Int32)) r3 r4)))]))
          refine Go.st (S' := T261.setTop (mkF m 250 #[.val (.int p0), .val (.int p1), .val (.int p2), .val (.int p3), .val (.int p4), .val (.int (p0 &&& (3 : Int32))), .val (.int ((XT.ushr p0 (2 : Int32)) &&& (3 : Int32))), .val (.int ((XT.ushr p0 (4 : Int32)) &&& (3 : Int32))), .val (.int ((XT.ushr p0 (6 : Int32)) &&& (3 : Int32))), .val (.int (p1 &&& (255 : Int32))), .val (.int ((XT.ushr p1 (8 : Int32)) &&& (255 : Int32))), .val (.int ((XT.ushr p1 (16 : Int32)) &&& (255 : Int32))), .val (.int ((XT.ushr p1 (24 : Int32)) &&& (255 : Int32))), .val (.int r1), .val (.int r2), .val (.int r3), .val (.int r4), .val (.ref a5), .val (.ref a157), .val (.int (0 : Int32))] [(.int (0 : Int32)), (.int (own_adm (own_co (p0 &&& (3 : Int32)) (p1 &&& (255 : Int32)) ((XT.ushr p1 (8 : Int32)) &&& (255 : Int32))) (own_co ((XT.ushr p0 (2 : Int32)) &&& (3 : Int32)) ((XT.ushr p1 (16 : Int32)) &&& (255 : Int32)) ((XT.ushr p1 (24 : Int32)) &&& (255 : Int32))) (own_co ((XT.ushr p0 (4 : Int32)) &&& (3 : Int32)) r1 r2) (own_co ((XT.ushr p0 (6 : Int32)) &&& (3 : Int32)) r3 r4)))])) (fun t kt => XS.iload X261.here hx rfl (hb hby at_248) rfl kt) ?_
          refine Go.st (S' := T261.setTop (mkF m 253 #[.val (.int p0), .val (.int p1), .val (.int p2), .val (.int p3), .val (.int p4), .val (.int (p0 &&& (3 : Int32))), .val (.int ((XT.ushr p0 (2 : Int32)) &&& (3 : Int32))), .val (.int ((XT.ushr p0 (4 : Int32)) &&& (3 : Int32))), .val (.int ((XT.ushr p0 (6 : Int32)) &&& (3 : Int32))), .val (.int (p1 &&& (255 : Int32))), .val (.int ((XT.ushr p1 (8 : Int32)) &&& (255 : Int32))), .val (.int ((XT.ushr p1 (16 : Int32)) &&& (255 : Int32))), .val (.int ((XT.ushr p1 (24 : Int32)) &&& (255 : Int32))), .val (.int r1), .val (.int r2), .val (.int r3), .val (.int r4), .val (.ref a5), .val (.ref a157), .val (.int (0 : Int32))] [])) (fun t kt => XS.icmpNo X261.here hx rfl (hb hby at_250) rfl (XT.ii_ne_f ((own_fin (own_mask4 _) (own_mask4 _) (own_mask4 _) (own_mask4 _) ⟨_, rfl⟩ ⟨_, rfl⟩ lo1 lo2 ⟨_, rfl⟩ ⟨_, rfl⟩ lo3 lo4).trans (by simp [hc213_241, hc231_252]))) kt) ?_
          refine Go.st (S' := T261.setTop (mkF m 254 #[.val (.int p0), .val (.int p1), .val (.int p2), .val (.int p3), .val (.int p4), .val (.int (p0 &&& (3 : Int32))), .val (.int ((XT.ushr p0 (2 : Int32)) &&& (3 : Int32))), .val (.int ((XT.ushr p0 (4 : Int32)) &&& (3 : Int32))), .val (.int ((XT.ushr p0 (6 : Int32)) &&& (3 : Int32))), .val (.int (p1 &&& (255 : Int32))), .val (.int ((XT.ushr p1 (8 : Int32)) &&& (255 : Int32))), .val (.int ((XT.ushr p1 (16 : Int32)) &&& (255 : Int32))), .val (.int ((XT.ushr p1 (24 : Int32)) &&& (255 : Int32))), .val (.int r1), .val (.int r2), .val (.int r3), .val (.int r4), .val (.ref a5), .val (.ref a157), .val (.int (0 : Int32))] [(.int (1 : Int32))])) (fun t kt => XS.iconst X261.here hx rfl (hb hby at_253) kt) ?_
          refine Go.st (S' := T261.setTop (mkF m 258 #[.val (.int p0), .val (.int p1), .val (.int p2), .val (.int p3), .val (.int p4), .val (.int (p0 &&& (3 : Int32))), .val (.int ((XT.ushr p0 (2 : Int32)) &&& (3 : Int32))), .val (.int ((XT.ushr p0 (4 : Int32)) &&& (3 : Int32))), .val (.int ((XT.ushr p0 (6 : Int32)) &&& (3 : Int32))), .val (.int (p1 &&& (255 : Int32))), .val (.int ((XT.ushr p1 (8 : Int32)) &&& (255 : Int32))), .val (.int ((XT.ushr p1 (16 : Int32)) &&& (255 : Int32))), .val (.int ((XT.ushr p1 (24 : Int32)) &&& (255 : Int32))), .val (.int r1), .val (.int r2), .val (.int r3), .val (.int r4), .val (.ref a5), .val (.ref a157), .val (.int (0 : Int32))] [(.int (1 : Int32))])) (fun t kt => XS.goto X261.here hx rfl (pc0 := 254) (pc' := 258) rfl (hb hby at_254) (by decide) (by decide) kt) ?_
          exact retw_b X261 hZ hEL e261 C237 hS hk hx hlk hret (hb hby at_258) (by decide) (by decide) (⟨rfl, N261⟩)
        · refine Go.st (S' := T251.setTop (mkF m 234 #[.val (.int p0), .val (.int p1), .val (.int p2), .val (.int p3), .val (.int p4), .val (.int (p0 &&& (3 : Int32))), .val (.int ((XT.ushr p0 (2 : Int32)) &&& (3 : Int32))), .val (.int ((XT.ushr p0 (4 : Int32)) &&& (3 : Int32))), .val (.int ((XT.ushr p0 (6 : Int32)) &&& (3 : Int32))), .val (.int (p1 &&& (255 : Int32))), .val (.int ((XT.ushr p1 (8 : Int32)) &&& (255 : Int32))), .val (.int ((XT.ushr p1 (16 : Int32)) &&& (255 : Int32))), .val (.int ((XT.ushr p1 (24 : Int32)) &&& (255 : Int32))), .val (.int r1), .val (.int r2), .val (.int r3), .val (.int r4), .val (.ref a5), .val (.ref a157), .unset] [])) (fun t kt => XS.ifNo X251.here hx rfl (hb hby at_231) rfl (XT.i0_eq_f hc231_252) kt) ?_
          refine Go.st (S' := T251.setTop (mkF m 235 #[.val (.int p0), .val (.int p1), .val (.int p2), .val (.int p3), .val (.int p4), .val (.int (p0 &&& (3 : Int32))), .val (.int ((XT.ushr p0 (2 : Int32)) &&& (3 : Int32))), .val (.int ((XT.ushr p0 (4 : Int32)) &&& (3 : Int32))), .val (.int ((XT.ushr p0 (6 : Int32)) &&& (3 : Int32))), .val (.int (p1 &&& (255 : Int32))), .val (.int ((XT.ushr p1 (8 : Int32)) &&& (255 : Int32))), .val (.int ((XT.ushr p1 (16 : Int32)) &&& (255 : Int32))), .val (.int ((XT.ushr p1 (24 : Int32)) &&& (255 : Int32))), .val (.int r1), .val (.int r2), .val (.int r3), .val (.int r4), .val (.ref a5), .val (.ref a157), .unset] [(.int (1 : Int32))])) (fun t kt => XS.iconst X251.here hx rfl (hb hby at_234) kt) ?_
          refine Go.st (S' := T251.setTop (mkF m 239 #[.val (.int p0), .val (.int p1), .val (.int p2), .val (.int p3), .val (.int p4), .val (.int (p0 &&& (3 : Int32))), .val (.int ((XT.ushr p0 (2 : Int32)) &&& (3 : Int32))), .val (.int ((XT.ushr p0 (4 : Int32)) &&& (3 : Int32))), .val (.int ((XT.ushr p0 (6 : Int32)) &&& (3 : Int32))), .val (.int (p1 &&& (255 : Int32))), .val (.int ((XT.ushr p1 (8 : Int32)) &&& (255 : Int32))), .val (.int ((XT.ushr p1 (16 : Int32)) &&& (255 : Int32))), .val (.int ((XT.ushr p1 (24 : Int32)) &&& (255 : Int32))), .val (.int r1), .val (.int r2), .val (.int r3), .val (.int r4), .val (.ref a5), .val (.ref a157), .unset] [(.int (1 : Int32))])) (fun t kt => XS.goto X251.here hx rfl (pc0 := 235) (pc' := 239) rfl (hb hby at_235) (by decide) (by decide) kt) ?_
          refine Go.st (S' := T251.setTop (mkF m 241 #[.val (.int p0), .val (.int p1), .val (.int p2), .val (.int p3), .val (.int p4), .val (.int (p0 &&& (3 : Int32))), .val (.int ((XT.ushr p0 (2 : Int32)) &&& (3 : Int32))), .val (.int ((XT.ushr p0 (4 : Int32)) &&& (3 : Int32))), .val (.int ((XT.ushr p0 (6 : Int32)) &&& (3 : Int32))), .val (.int (p1 &&& (255 : Int32))), .val (.int ((XT.ushr p1 (8 : Int32)) &&& (255 : Int32))), .val (.int ((XT.ushr p1 (16 : Int32)) &&& (255 : Int32))), .val (.int ((XT.ushr p1 (24 : Int32)) &&& (255 : Int32))), .val (.int r1), .val (.int r2), .val (.int r3), .val (.int r4), .val (.ref a5), .val (.ref a157), .val (.int (1 : Int32))] [])) (fun t kt => XS.istore X251.here hx rfl (hb hby at_239) rfl rfl kt) ?_
          refine Go.st (S' := T251.setTop (mkF m 243 #[.val (.int p0), .val (.int p1), .val (.int p2), .val (.int p3), .val (.int p4), .val (.int (p0 &&& (3 : Int32))), .val (.int ((XT.ushr p0 (2 : Int32)) &&& (3 : Int32))), .val (.int ((XT.ushr p0 (4 : Int32)) &&& (3 : Int32))), .val (.int ((XT.ushr p0 (6 : Int32)) &&& (3 : Int32))), .val (.int (p1 &&& (255 : Int32))), .val (.int ((XT.ushr p1 (8 : Int32)) &&& (255 : Int32))), .val (.int ((XT.ushr p1 (16 : Int32)) &&& (255 : Int32))), .val (.int ((XT.ushr p1 (24 : Int32)) &&& (255 : Int32))), .val (.int r1), .val (.int r2), .val (.int r3), .val (.int r4), .val (.ref a5), .val (.ref a157), .val (.int (1 : Int32))] [(.ref a5)])) (fun t kt => XS.aload X251.here hx rfl (hb hby at_241) rfl rfl kt) ?_
          refine Go.st (S' := T251.setTop (mkF m 245 #[.val (.int p0), .val (.int p1), .val (.int p2), .val (.int p3), .val (.int p4), .val (.int (p0 &&& (3 : Int32))), .val (.int ((XT.ushr p0 (2 : Int32)) &&& (3 : Int32))), .val (.int ((XT.ushr p0 (4 : Int32)) &&& (3 : Int32))), .val (.int ((XT.ushr p0 (6 : Int32)) &&& (3 : Int32))), .val (.int (p1 &&& (255 : Int32))), .val (.int ((XT.ushr p1 (8 : Int32)) &&& (255 : Int32))), .val (.int ((XT.ushr p1 (16 : Int32)) &&& (255 : Int32))), .val (.int ((XT.ushr p1 (24 : Int32)) &&& (255 : Int32))), .val (.int r1), .val (.int r2), .val (.int r3), .val (.int r4), .val (.ref a5), .val (.ref a157), .val (.int (1 : Int32))] [(.ref a157), (.ref a5)])) (fun t kt => XS.aload X251.here hx rfl (hb hby at_243) rfl rfl kt) ?_
          have f262 := (own_sta_keep (own_sta_keep f225 K226' all0) K237' (allS (own_obj_exa f231) all0))
          have f263 := (f238.keep K237')
          have f264 := ((((f155_1.ext E157).keep K221' nin0).keep K226' nin0).keep K237' (ninS (Nat.ne_of_lt (by rw [g157]; exact f155_0.lt)) nin0))
          have f265 := ((((f155_2.ext E157).keep K221' nin0).keep K226' nin0).keep K237' (ninS (Nat.ne_of_lt (by rw [g157]; exact f155_0.lt)) nin0))
          have f266 := (StrIs.keep (StrIs.keep f229 K226' all0) K237' (allS (own_nostr f231 (by decide) (hw _ (List.mem_of_getElem? (i := 5) rfl))) all0))
          have f267 := (StrIs.keep (StrIs.keep f230 K226' all0) K237' (allS (own_nostr f231 (by decide) (hw _ (List.mem_of_getElem? (i := 5) rfl))) all0))
          have f268 := (StrIs.keep (StrIs.keep f221_1 K226' all0) K237' (allS (own_nostr f231 (by decide) (hw _ (List.mem_of_getElem? (i := 5) rfl))) all0))
          have f269 := (StrIs.keep f226_1 K237' (allS (own_nostr f231 (by decide) (hw _ (List.mem_of_getElem? (i := 5) rfl))) all0))
          refine Go.virt X251 hx hZ hown (hw _ (List.mem_of_getElem? (i := 40) rfl)) (hw _ (List.mem_of_getElem? (i := 41) rfl)) (notFace_of_selects (mvT (args := #[]) hZ (hw _ (List.mem_of_getElem? (i := 43) rfl)))) (hw _ (List.mem_of_getElem? (i := 43) rfl)) (hw _ (List.mem_of_getElem? (i := 42) rfl)) (hw _ (List.mem_of_getElem? (i := 44) rfl)) (hw _ (List.mem_of_getElem? (i := 6) rfl)) (by decide) (b := a5) (argsL := [(.ref a157)]) (rest := []) (rmAE l Z a0 hw a5 a157 u145 u147 u221 u226 (own_co (p0 &&& (3 : Int32)) (p1 &&& (255 : Int32)) ((XT.ushr p1 (8 : Int32)) &&& (255 : Int32))) (own_co ((XT.ushr p0 (2 : Int32)) &&& (3 : Int32)) ((XT.ushr p1 (16 : Int32)) &&& (255 : Int32)) ((XT.ushr p1 (24 : Int32)) &&& (255 : Int32))) (own_co ((XT.ushr p0 (4 : Int32)) &&& (3 : Int32)) r1 r2) (own_co ((XT.ushr p0 (6 : Int32)) &&& (3 : Int32)) r3 r4) T237.heap n0 Z237 cs f262 hcs f263 f264 f265 f237_1 f237_2 hu_u221 hu_u226 f266 f267 f268 f269 (StrIs.sep f223 f221_0) (StrIs.sep f230 f226_0)) e251 f263 rfl (by rw [hml]; rfl) pd__Lcom_example_sunder_sunder_query_Step__Z rfl (hb hby at_245) 0 (Nat.le_refl _) (by decide) (by decide) (by decide) (by decide) ?_
          intro v270 T270 L270 X270 hQ270
          obtain ⟨hv270, N270', e270⟩ := hQ270
          subst hv270
          have N270 := Fr.app N251 N270'
          show Go pP eE below _ (T270.setTop (mkF m 248 #[.val (.int p0), .val (.int p1), .val (.int p2), .val (.int p3), .val (.int p4), .val (.int (p0 &&& (3 : Int32))), .val (.int ((XT.ushr p0 (2 : Int32)) &&& (3 : Int32))), .val (.int ((XT.ushr p0 (4 : Int32)) &&& (3 : Int32))), .val (.int ((XT.ushr p0 (6 : Int32)) &&& (3 : Int32))), .val (.int (p1 &&& (255 : Int32))), .val (.int ((XT.ushr p1 (8 : Int32)) &&& (255 : Int32))), .val (.int ((XT.ushr p1 (16 : Int32)) &&& (255 : Int32))), .val (.int ((XT.ushr p1 (24 : Int32)) &&& (255 : Int32))), .val (.int r1), .val (.int r2), .val (.int r3), .val (.int r4), .val (.ref a5), .val (.ref a157), .val (.int (1 : Int32))] [(.int (own_adm (own_co (p0 &&& (3 : Int32)) (p1 &&& (255 : Int32)) ((XT.ushr p1 (8 : Int32)) &&& (255 : Int32))) (own_co ((XT.ushr p0 (2 : Int32)) &&& (3 : Int32)) ((XT.ushr p1 (16 : Int32)) &&& (255 : Int32)) ((XT.ushr p1 (24 : Int32)) &&& (255 : Int32))) (own_co ((XT.ushr p0 (4 : Int32)) &&& (3 : Int32)) r1 r2) (own_co ((XT.ushr p0 (6 : Int32)) &&& (3 : Int32)) r3 r4)))]))
          refine Go.st (S' := T270.setTop (mkF m 250 #[.val (.int p0), .val (.int p1), .val (.int p2), .val (.int p3), .val (.int p4), .val (.int (p0 &&& (3 : Int32))), .val (.int ((XT.ushr p0 (2 : Int32)) &&& (3 : Int32))), .val (.int ((XT.ushr p0 (4 : Int32)) &&& (3 : Int32))), .val (.int ((XT.ushr p0 (6 : Int32)) &&& (3 : Int32))), .val (.int (p1 &&& (255 : Int32))), .val (.int ((XT.ushr p1 (8 : Int32)) &&& (255 : Int32))), .val (.int ((XT.ushr p1 (16 : Int32)) &&& (255 : Int32))), .val (.int ((XT.ushr p1 (24 : Int32)) &&& (255 : Int32))), .val (.int r1), .val (.int r2), .val (.int r3), .val (.int r4), .val (.ref a5), .val (.ref a157), .val (.int (1 : Int32))] [(.int (1 : Int32)), (.int (own_adm (own_co (p0 &&& (3 : Int32)) (p1 &&& (255 : Int32)) ((XT.ushr p1 (8 : Int32)) &&& (255 : Int32))) (own_co ((XT.ushr p0 (2 : Int32)) &&& (3 : Int32)) ((XT.ushr p1 (16 : Int32)) &&& (255 : Int32)) ((XT.ushr p1 (24 : Int32)) &&& (255 : Int32))) (own_co ((XT.ushr p0 (4 : Int32)) &&& (3 : Int32)) r1 r2) (own_co ((XT.ushr p0 (6 : Int32)) &&& (3 : Int32)) r3 r4)))])) (fun t kt => XS.iload X270.here hx rfl (hb hby at_248) rfl kt) ?_
          refine Go.st (S' := T270.setTop (mkF m 253 #[.val (.int p0), .val (.int p1), .val (.int p2), .val (.int p3), .val (.int p4), .val (.int (p0 &&& (3 : Int32))), .val (.int ((XT.ushr p0 (2 : Int32)) &&& (3 : Int32))), .val (.int ((XT.ushr p0 (4 : Int32)) &&& (3 : Int32))), .val (.int ((XT.ushr p0 (6 : Int32)) &&& (3 : Int32))), .val (.int (p1 &&& (255 : Int32))), .val (.int ((XT.ushr p1 (8 : Int32)) &&& (255 : Int32))), .val (.int ((XT.ushr p1 (16 : Int32)) &&& (255 : Int32))), .val (.int ((XT.ushr p1 (24 : Int32)) &&& (255 : Int32))), .val (.int r1), .val (.int r2), .val (.int r3), .val (.int r4), .val (.ref a5), .val (.ref a157), .val (.int (1 : Int32))] [])) (fun t kt => XS.icmpNo X270.here hx rfl (hb hby at_250) rfl (XT.ii_ne_f ((own_fin (own_mask4 _) (own_mask4 _) (own_mask4 _) (own_mask4 _) ⟨_, rfl⟩ ⟨_, rfl⟩ lo1 lo2 ⟨_, rfl⟩ ⟨_, rfl⟩ lo3 lo4).trans (by simp [hc213_241, hc231_252]))) kt) ?_
          refine Go.st (S' := T270.setTop (mkF m 254 #[.val (.int p0), .val (.int p1), .val (.int p2), .val (.int p3), .val (.int p4), .val (.int (p0 &&& (3 : Int32))), .val (.int ((XT.ushr p0 (2 : Int32)) &&& (3 : Int32))), .val (.int ((XT.ushr p0 (4 : Int32)) &&& (3 : Int32))), .val (.int ((XT.ushr p0 (6 : Int32)) &&& (3 : Int32))), .val (.int (p1 &&& (255 : Int32))), .val (.int ((XT.ushr p1 (8 : Int32)) &&& (255 : Int32))), .val (.int ((XT.ushr p1 (16 : Int32)) &&& (255 : Int32))), .val (.int ((XT.ushr p1 (24 : Int32)) &&& (255 : Int32))), .val (.int r1), .val (.int r2), .val (.int r3), .val (.int r4), .val (.ref a5), .val (.ref a157), .val (.int (1 : Int32))] [(.int (1 : Int32))])) (fun t kt => XS.iconst X270.here hx rfl (hb hby at_253) kt) ?_
          refine Go.st (S' := T270.setTop (mkF m 258 #[.val (.int p0), .val (.int p1), .val (.int p2), .val (.int p3), .val (.int p4), .val (.int (p0 &&& (3 : Int32))), .val (.int ((XT.ushr p0 (2 : Int32)) &&& (3 : Int32))), .val (.int ((XT.ushr p0 (4 : Int32)) &&& (3 : Int32))), .val (.int ((XT.ushr p0 (6 : Int32)) &&& (3 : Int32))), .val (.int (p1 &&& (255 : Int32))), .val (.int ((XT.ushr p1 (8 : Int32)) &&& (255 : Int32))), .val (.int ((XT.ushr p1 (16 : Int32)) &&& (255 : Int32))), .val (.int ((XT.ushr p1 (24 : Int32)) &&& (255 : Int32))), .val (.int r1), .val (.int r2), .val (.int r3), .val (.int r4), .val (.ref a5), .val (.ref a157), .val (.int (1 : Int32))] [(.int (1 : Int32))])) (fun t kt => XS.goto X270.here hx rfl (pc0 := 254) (pc' := 258) rfl (hb hby at_254) (by decide) (by decide) kt) ?_
          exact retw_b X270 hZ hEL e270 C237 hS hk hx hlk hret (hb hby at_258) (by decide) (by decide) (⟨rfl, N270⟩)
set_option maxRecDepth 65536 in
set_option maxHeartbeats 40000000 in
theorem comes_1 {Post : Tables → Env → Array Value → State → Outcome → State → Prop} (hpost : ∀ tb e args s v u, (limb_1_1.after args s (.returned v) u = true ∧ limb_1_2.after args s (.returned v) u = true ∧ True) → ReturnedEndW s (.returned v) u (Jvm.fieldLocs frame_1_writes args s ++ Jvm.arrayLocs frame_1_arrays args s ++ Jvm.staticLocs frame_1_statics s) 40 1216 → Post tb e args s (.returned v) u) :
    ArmFor flags0 classFile x code maxLocals ret World_1 tables_1 room_1 Calls_1 rest_1 Pre_1 Post := by
  intro l hfl _ _ p e ha hc hk s m args below hf hA hF happ hP
  obtain ⟨hcalls, hrest, hpre⟩ := hP
  obtain ⟨-, -, -, hnamed, -, hinit0, -, hat⟩ := (Spec.applies_iff hf).mp happ
  obtain ⟨hg, hn⟩ := and_e (Cond.before_iff.mp (show (Jvm.Cond.and given_1 narrow_1).before args s = true from hpre))
  obtain ⟨hcount, hgs⟩ := and_e hg
  obtain ⟨hg0, hgs⟩ := and_e hgs
  obtain ⟨hg1, hgs⟩ := and_e hgs
  obtain ⟨hg2, hgs⟩ := and_e hgs
  obtain ⟨hg3, hg4⟩ := and_e hgs
  obtain ⟨w0, w1, w2, w3, w4, rfl⟩ : ∃ w0 w1 w2 w3 w4 : Value, args = #[w0, w1, w2, w3, w4] := by
    have hs : args.size = 5 := by simpa [Cond.value, given_1] using hcount
    obtain ⟨L⟩ := args
    match L, hs with
    | [w0, w1, w2, w3, w4], _ => exact ⟨w0, w1, w2, w3, w4, rfl⟩
  have hw := fun d (hd : d ∈ tables_1) => atoms_spec (ws := Jvm.Cond.code x code maxLocals ret :: tables_1) hat d (List.mem_cons_of_mem _ hd)
  have hfit : Fit s := fun {y c} hc i hi => by
    obtain ⟨ha, rfl⟩ := Array.getElem?_eq_some_iff.mp hc
    have q := List.all_eq_true.mp ((Array.all_eq_true_iff_forall_mem.mp hF) _ (Array.getElem_mem ha)) i (List.mem_range.mpr hi)
    simpa [Array.getElem?_eq_getElem hi] using q
  obtain ⟨hsets, hown0⟩ := atoms_of _ (rest_1_c_eq ▸ (show rest_1_c.before _ s = true from hrest))
  have hr0 := Cond.before_iff.mp hown0
  obtain ⟨i0, ei0⟩ := is_v hg0
  obtain rfl : w0 = (.int i0) := Option.some.inj ei0
  obtain ⟨i1, ei1⟩ := is_v hg1
  obtain rfl : w1 = (.int i1) := Option.some.inj ei1
  obtain ⟨i2, ei2⟩ := is_v hg2
  obtain rfl : w2 = (.int i2) := Option.some.inj ei2
  obtain ⟨i3, ei3⟩ := is_v hg3
  obtain rfl : w3 = (.int i3) := Option.some.inj ei3
  obtain ⟨i4, ei4⟩ := is_v hg4
  obtain rfl : w4 = (.int i4) := Option.some.inj ei4
  obtain ⟨cs, vcs⟩ := is_v (Cond.before_iff.mp (hsets _ (List.mem_of_getElem? (i := 1) rfl)))
  have S_cs := Sta.start vcs (Or.inl (hsets _ (List.mem_of_getElem? (i := 0) rfl)))
  have hcs : ¬ cs = 0 := gotF (own_eqI vcs (Term.int_eval 0)) (not_v (Cond.before_iff.mp (hsets _ (List.mem_of_getElem? (i := 2) rfl))))
  obtain ⟨n0, hn⟩ := and_e hn
  obtain ⟨n1, hn⟩ := and_e hn
  obtain ⟨n2, n3⟩ := and_e hn
  obtain ⟨k_ELEMENT, vk_ELEMENT⟩ := exa_v n0
  have Sk_ELEMENT := Sta.start vk_ELEMENT (Or.inr ⟨(hw _ (List.mem_of_getElem? (i := 11) rfl)), (hw _ (List.mem_of_getElem? (i := 12) rfl))⟩)
  have Ek_ELEMENT := Exa.start vk_ELEMENT n0
  obtain ⟨k_SELF, vk_SELF⟩ := exa_v n1
  have Sk_SELF := Sta.start vk_SELF (Or.inr ⟨(hw _ (List.mem_of_getElem? (i := 11) rfl)), (hw _ (List.mem_of_getElem? (i := 46) rfl))⟩)
  have Ek_SELF := Exa.start vk_SELF n1
  obtain ⟨k_ATTRIBUTE, vk_ATTRIBUTE⟩ := exa_v n2
  have Sk_ATTRIBUTE := Sta.start vk_ATTRIBUTE (Or.inr ⟨(hw _ (List.mem_of_getElem? (i := 11) rfl)), (hw _ (List.mem_of_getElem? (i := 76) rfl))⟩)
  have Ek_ATTRIBUTE := Exa.start vk_ATTRIBUTE n2
  obtain ⟨k_TEXT, vk_TEXT⟩ := exa_v n3
  have Sk_TEXT := Sta.start vk_TEXT (Or.inr ⟨(hw _ (List.mem_of_getElem? (i := 11) rfl)), (hw _ (List.mem_of_getElem? (i := 83) rfl))⟩)
  have Ek_TEXT := Exa.start vk_TEXT n3
  have hCH : CHv s own_EL s.vm s.heap := CHv.start (own_ew hw) (fun p hp => hcalls.1 p hp) (hsets _ (List.mem_of_getElem? (i := 2) rfl)) (hw _ (List.mem_of_getElem? (i := 64) rfl)) (hw _ (List.mem_of_getElem? (i := 48) rfl))
  obtain ⟨n, o, h1, h2, h3, _, L, rfl, ⟨rfl, N⟩, -, hq⟩ := rm0 l s _ hw i0 i1 i2 i3 i4 s.heap s.heap.size (Nat.le_refl _) cs S_cs hcs k_ELEMENT k_ATTRIBUTE k_TEXT k_SELF Sk_ELEMENT Sk_ATTRIBUTE Sk_TEXT Sk_SELF tables_1 p e ha hc hk s m _ below hf ((Spec.applies_iff_loose hf).mp happ).1 ⟨rfl, State.Warmed39.refl s, rfl, hCH⟩ trivial
  refine ⟨n, _, h1, h2, h3, hpost _ _ _ _ _ _ ⟨Cond.after_iff.mpr rfl, Cond.after_iff.mpr (eq_i res_at (Term.int_eval (1)) rfl), trivial⟩ ⟨hq.1, hq.2.1, hq.2.2.1, (hq.2.2.2.sift fun y hy => Or.inr (N y hy)).mono (by decide) (by decide)⟩⟩
theorem main_1_1 : Claimed_1_1 := comes_1 fun _ _ _ _ _ _ h hF => ⟨h.1, hF⟩
theorem main_1_2 : Claimed_1_2 := comes_1 fun _ _ _ _ _ _ h hF => ⟨h.2.1, hF⟩
end Jvm.Pilot.@@N@@
namespace Jvm.Pilot.@@N@@
open Jvm Jvm.ClassFile Sem Op Lib Jvm.Free Jvm.Stand Jvm.Pilot.@@N@@.Jvm.D
/-! MADE BY PROGRAM (witnessworld.py) out of the Statement's table words and the real class files: 23 classes; the members and pool entries that the words name. The judged class is class 1, her method 1. -/
namespace start1
open Jvm.ClassFile
def u (s : String) : CpInfo := .utf8 (stringToUtf16 s)
/-- a pool by its gaps: so many unusable entries, then the entry; so many at the end -/
def gap : Nat → List CpInfo → List CpInfo
  | 0, r => r
  | n + 1, r => .unusable :: gap n r
def poolList (es : List (Nat × CpInfo)) (last : Nat) : List CpInfo := es.foldr (fun e r => gap e.1 (e.2 :: r)) (gap last [])
def pool (es : List (Nat × CpInfo)) (last : Nat) : Array CpInfo := ⟨poolList es last⟩
def fileOf (pool : Array CpInfo) (this : Nat) (attrs : Array Attribute := #[]) (ms : Array MethodInfo := #[]) (fl : Nat := 33) (sup : Nat := 0) (ifs : Array Nat := #[]) (fds : Array FieldInfo := #[]) : ClassFile where
  minorVersion := 0
  majorVersion := 65
  constantPool := pool
  accessFlags := fl
  thisClass := this
  superClass := sup
  interfaces := ifs
  fields := fds
  methods := ms
  attributes := attrs
def plain (name : String) (sup : Option ClassId) : Class where
  name := name
  kind := .ordinary
  loader := none
  accessFlags := 33
  super := sup
  interfaces := #[]
  cf := none
  fields := #[]
  methods := #[]
  instanceTypes := #[]
  staticTypes := #[]
  resolved := #[]
  callSites := []
  init := .initialized
  statics := none
  mirror := none

def pool0 : Array CpInfo := pool [(5, u "<init>"), (0, u "()V"), (1, .class_ 10), (1, u "java/lang/Object")] 113

def k0c0 : Code := { maxStack := 0, maxLocals := 1, code := object_method_1_code, exceptionTable := #[], attributes := #[] }
def k0m0 : Method := { name := "<init>", desc := "()V", sig := { parameters := [], returnType := none }, accessFlags := 1, code := some k0c0 }
/-- java/lang/Object -/
def k0 : Class := { plain "java/lang/Object" none with
  accessFlags := 33
  interfaces := #[]
  cf := some (fileOf pool0 8 #[] #[{ accessFlags := 1, nameIndex := 5, descriptorIndex := 6, attributes := #[] }] 33 0 #[] #[])
  fields := #[]
  methods := #[k0m0]
  instanceTypes := #[]
  staticTypes := #[]
  resolved := Array.replicate 124 none
  statics := none }

def pool1 : Array CpInfo := pool [(2, .class_ 4), (1, u "java/lang/Object"), (0, u "<init>"), (0, u "()V"), (0, .methodref 8 9), (0, .class_ 10), (0, .nameAndType 11 12), (0, u "com/example/sunder/sunder/query/StepAdmitsEveryPinLaw"), (0, u "pick"), (0, u "(II)I"), (0, .class_ 14), (0, u "com/example/sunder/sunder/query/Step"), (0, .methodref 8 16), (0, .nameAndType 17 18), (0, u "kind"), (0, u "(I)Lcom/example/sunder/sunder/query/Step$Kind;"), (0, .methodref 8 20), (0, .nameAndType 21 22), (0, u "mk"), (0, u "(III)Ljava/lang/String;"), (0, .methodref 13 24), (0, .nameAndType 5 25), (0, u "(ZLcom/example/sunder/sunder/query/Step$Kind;Ljava/lang/String;Ljava/lang/String;Ljava/util/List;)V"), (0, .methodref 8 27), (0, .nameAndType 28 29), (0, u "covers"), (0, u "(IIIIII)Z"), (0, .methodref 13 31), (0, .nameAndType 32 33), (0, u "admitsEvery"), (0, u "(Lcom/example/sunder/sunder/query/Step;)Z"), (0, .class_ 35), (0, u "java/lang/String"), (0, .methodref 34 37), (0, .nameAndType 5 38), (0, u "([C)V"), (0, .fieldref 40 41), (0, .class_ 42), (0, .nameAndType 43 44), (0, u "com/example/sunder/sunder/query/Step$Kind"), (0, u "ELEMENT"), (0, u "Lcom/example/sunder/sunder/query/Step$Kind;"), (0, .fieldref 40 46), (0, .nameAndType 47 44), (0, u "ATTRIBUTE"), (0, .fieldref 40 49), (0, .nameAndType 50 44), (0, u "TEXT"), (0, .fieldref 40 52), (0, .nameAndType 53 44), (0, u "SELF"), (2, u "law"), (0, u "(IIIII)Z")] 5

def k1m0 : Method := { name := "<init>", desc := "()V", sig := { parameters := [], returnType := none }, accessFlags := 1, code := none }
def k1c1 : Code := { maxStack := 8, maxLocals := 20, code := code, exceptionTable := #[], attributes := #[] }
def k1m1 : Method := { name := "law", desc := "(IIIII)Z", sig := { parameters := [.int, .int, .int, .int, .int], returnType := some .boolean }, accessFlags := 9, code := some k1c1 }
def k1c2 : Code := { maxStack := 2, maxLocals := 2, code := method_3_code, exceptionTable := #[], attributes := #[] }
def k1m2 : Method := { name := "pick", desc := "(II)I", sig := { parameters := [.int, .int], returnType := some .int }, accessFlags := 10, code := some k1c2 }
def k1c3 : Code := { maxStack := 6, maxLocals := 3, code := method_4_code, exceptionTable := #[], attributes := #[] }
def k1m3 : Method := { name := "mk", desc := "(III)Ljava/lang/String;", sig := { parameters := [.int, .int, .int], returnType := some (.object "java/lang/String") }, accessFlags := 10, code := some k1c3 }
def k1c4 : Code := { maxStack := 2, maxLocals := 6, code := method_5_code, exceptionTable := #[], attributes := #[] }
def k1m4 : Method := { name := "covers", desc := "(IIIIII)Z", sig := { parameters := [.int, .int, .int, .int, .int, .int], returnType := some .boolean }, accessFlags := 10, code := some k1c4 }
def k1c5 : Code := { maxStack := 2, maxLocals := 2, code := method_6_code, exceptionTable := #[], attributes := #[] }
def k1m5 : Method := { name := "kind", desc := "(I)Lcom/example/sunder/sunder/query/Step$Kind;", sig := { parameters := [.int], returnType := some (.object "com/example/sunder/sunder/query/Step$Kind") }, accessFlags := 10, code := some k1c5 }
/-- com/example/sunder/sunder/query/StepAdmitsEveryPinLaw -/
def k1 : Class := { plain "com/example/sunder/sunder/query/StepAdmitsEveryPinLaw" (some 0) with
  accessFlags := 49
  interfaces := #[]
  cf := some (fileOf pool1 8 #[] #[{ accessFlags := 1, nameIndex := 5, descriptorIndex := 6, attributes := #[] }, { accessFlags := 9, nameIndex := 56, descriptorIndex := 57, attributes := #[] }, { accessFlags := 10, nameIndex := 11, descriptorIndex := 12, attributes := #[] }, { accessFlags := 10, nameIndex := 21, descriptorIndex := 22, attributes := #[] }, { accessFlags := 10, nameIndex := 28, descriptorIndex := 29, attributes := #[] }, { accessFlags := 10, nameIndex := 17, descriptorIndex := 18, attributes := #[] }] 49 2 #[] #[])
  fields := #[]
  methods := #[k1m0, k1m1, k1m2, k1m3, k1m4, k1m5]
  instanceTypes := #[]
  staticTypes := #[]
  resolved := Array.replicate 63 none
  statics := none }

def pool2 : Array CpInfo := pool [(1, .methodref 2 3), (0, .class_ 4), (0, .nameAndType 5 6), (0, u "java/lang/Object"), (0, u "<init>"), (0, u "()V"), (0, .class_ 8), (0, u "java/lang/Record")] 13

def k2c0 : Code := { maxStack := 1, maxLocals := 1, code := jdk_30_method_1_code, exceptionTable := #[], attributes := #[] }
def k2m0 : Method := { name := "<init>", desc := "()V", sig := { parameters := [], returnType := none }, accessFlags := 4, code := some k2c0 }
/-- java/lang/Record -/
def k2 : Class := { plain "java/lang/Record" (some 0) with
  accessFlags := 1057
  interfaces := #[]
  cf := some (fileOf pool2 7 #[] #[{ accessFlags := 4, nameIndex := 5, descriptorIndex := 6, attributes := #[] }] 1057 2 #[] #[])
  fields := #[]
  methods := #[k2m0]
  instanceTypes := #[]
  staticTypes := #[]
  resolved := Array.replicate 22 none
  statics := none }

def pool3 : Array CpInfo := pool [(1, .methodref 2 3), (0, .class_ 4), (0, .nameAndType 5 6), (0, u "java/lang/Record"), (0, u "<init>"), (0, u "()V"), (0, .fieldref 8 9), (0, .class_ 10), (0, .nameAndType 11 12), (0, u "com/example/sunder/sunder/query/Step"), (0, u "descendants"), (0, u "Z"), (0, .fieldref 8 14), (0, .nameAndType 15 16), (0, u "kind"), (0, u "Lcom/example/sunder/sunder/query/Step$Kind;"), (0, .fieldref 8 18), (0, .nameAndType 19 20), (0, u "namespaceUri"), (0, u "Ljava/lang/String;"), (0, .fieldref 8 22), (0, .nameAndType 23 20), (0, u "localName"), (0, .fieldref 8 25), (0, .nameAndType 26 27), (0, u "predicates"), (0, u "Ljava/util/List;"), (5, .methodref 34 35), (0, .class_ 36), (0, .nameAndType 37 38), (0, u "java/lang/String"), (0, u "equals"), (0, u "(Ljava/lang/Object;)Z"), (15, u "(ZLcom/example/sunder/sunder/query/Step$Kind;Ljava/lang/String;Ljava/lang/String;Ljava/util/List;)V"), (7, u "admitsEvery"), (0, u "(Lcom/example/sunder/sunder/query/Step;)Z"), (8, .class_ 73), (0, u "com/example/sunder/sunder/query/Step$Kind")] 23

def k3c0 : Code := { maxStack := 2, maxLocals := 6, code := prog_30_method_1_code, exceptionTable := #[], attributes := #[] }
def k3m0 : Method := { name := "<init>", desc := "(ZLcom/example/sunder/sunder/query/Step$Kind;Ljava/lang/String;Ljava/lang/String;Ljava/util/List;)V", sig := { parameters := [.boolean, (.object "com/example/sunder/sunder/query/Step$Kind"), (.object "java/lang/String"), (.object "java/lang/String"), (.object "java/util/List")], returnType := none }, accessFlags := 0, code := some k3c0 }
def k3c1 : Code := { maxStack := 2, maxLocals := 2, code := prog_30_method_3_code, exceptionTable := #[], attributes := #[] }
def k3m1 : Method := { name := "admitsEvery", desc := "(Lcom/example/sunder/sunder/query/Step;)Z", sig := { parameters := [(.object "com/example/sunder/sunder/query/Step")], returnType := some .boolean }, accessFlags := 0, code := some k3c1 }
/-- com/example/sunder/sunder/query/Step -/
def k3 : Class := { plain "com/example/sunder/sunder/query/Step" (some 2) with
  accessFlags := 48
  interfaces := #[]
  cf := some (fileOf pool3 8 #[.nestMembers #[72]] #[{ accessFlags := 0, nameIndex := 5, descriptorIndex := 54, attributes := #[] }, { accessFlags := 0, nameIndex := 62, descriptorIndex := 63, attributes := #[] }] 48 2 #[] #[{ accessFlags := 18, nameIndex := 11, descriptorIndex := 12, attributes := #[] }, { accessFlags := 18, nameIndex := 15, descriptorIndex := 16, attributes := #[] }, { accessFlags := 18, nameIndex := 19, descriptorIndex := 20, attributes := #[] }, { accessFlags := 18, nameIndex := 23, descriptorIndex := 20, attributes := #[] }, { accessFlags := 18, nameIndex := 26, descriptorIndex := 27, attributes := #[] }])
  fields := #[{ name := "descendants", type := .boolean, accessFlags := 18, slot := 0, constantValue := 0 }, { name := "kind", type := (.object "com/example/sunder/sunder/query/Step$Kind"), accessFlags := 18, slot := 1, constantValue := 0 }, { name := "namespaceUri", type := (.object "java/lang/String"), accessFlags := 18, slot := 2, constantValue := 0 }, { name := "localName", type := (.object "java/lang/String"), accessFlags := 18, slot := 3, constantValue := 0 }, { name := "predicates", type := (.object "java/util/List"), accessFlags := 18, slot := 4, constantValue := 0 }]
  methods := #[k3m0, k3m1]
  instanceTypes := #[.boolean, (.object "com/example/sunder/sunder/query/Step$Kind"), (.object "java/lang/String"), (.object "java/lang/String"), (.object "java/util/List")]
  staticTypes := #[]
  resolved := Array.replicate 97 none
  statics := none }

def pool4 : Array CpInfo := pool [(1, .class_ 2), (0, u "java/lang/constant/Constable"), (0, .class_ 4), (0, u "java/lang/Object")] 6

/-- java/lang/constant/Constable -/
def k4 : Class := { plain "java/lang/constant/Constable" (some 0) with
  accessFlags := 1537
  interfaces := #[]
  cf := some (fileOf pool4 1 #[] #[] 1537 3 #[] #[])
  fields := #[]
  methods := #[]
  instanceTypes := #[]
  staticTypes := #[]
  resolved := Array.replicate 11 none
  statics := none }

def pool5 : Array CpInfo := pool [(1, .class_ 2), (0, u "java/lang/Comparable"), (0, .class_ 4), (0, u "java/lang/Object")] 7

/-- java/lang/Comparable -/
def k5 : Class := { plain "java/lang/Comparable" (some 0) with
  accessFlags := 1537
  interfaces := #[]
  cf := some (fileOf pool5 1 #[] #[] 1537 3 #[] #[])
  fields := #[]
  methods := #[]
  instanceTypes := #[]
  staticTypes := #[]
  resolved := Array.replicate 12 none
  statics := none }

def pool6 : Array CpInfo := pool [(1, .class_ 2), (0, u "java/io/Serializable"), (0, .class_ 4), (0, u "java/lang/Object")] 2

/-- java/io/Serializable -/
def k6 : Class := { plain "java/io/Serializable" (some 0) with
  accessFlags := 1537
  interfaces := #[]
  cf := some (fileOf pool6 1 #[] #[] 1537 3 #[] #[])
  fields := #[]
  methods := #[]
  instanceTypes := #[]
  staticTypes := #[]
  resolved := Array.replicate 7 none
  statics := none }

def pool7 : Array CpInfo := pool [(2, .class_ 4), (1, u "java/lang/Enum"), (0, u "name"), (0, u "Ljava/lang/String;"), (2, u "ordinal"), (0, u "I"), (1, .class_ 14), (1, u "java/lang/Object"), (4, u "hash"), (86, .class_ 108), (1, u "java/lang/Enum$EnumDesc"), (2, .class_ 112), (0, u "java/lang/constant/Constable"), (0, .class_ 114), (0, u "java/lang/Comparable"), (0, .class_ 116), (0, u "java/io/Serializable")] 87

/-- java/lang/Enum -/
def k7 : Class := { plain "java/lang/Enum" (some 0) with
  accessFlags := 1057
  interfaces := #[4, 5, 6]
  cf := some (fileOf pool7 2 #[.nestMembers #[106]] #[] 1057 12 #[111, 113, 115] #[{ accessFlags := 18, nameIndex := 5, descriptorIndex := 6, attributes := #[] }, { accessFlags := 18, nameIndex := 9, descriptorIndex := 10, attributes := #[] }, { accessFlags := 2, nameIndex := 19, descriptorIndex := 10, attributes := #[] }])
  fields := #[{ name := "name", type := (.object "java/lang/String"), accessFlags := 18, slot := 0, constantValue := 0 }, { name := "ordinal", type := .int, accessFlags := 18, slot := 1, constantValue := 0 }, { name := "hash", type := .int, accessFlags := 2, slot := 2, constantValue := 0 }]
  methods := #[]
  instanceTypes := #[(.object "java/lang/String"), .int, .int]
  staticTypes := #[]
  resolved := Array.replicate 204 none
  statics := none }

def pool8 : Array CpInfo := pool [(1, .class_ 2), (0, u "com/example/sunder/sunder/query/Step$Kind"), (2, u "ELEMENT"), (0, u "Lcom/example/sunder/sunder/query/Step$Kind;"), (2, u "ATTRIBUTE"), (2, u "TEXT"), (2, u "SELF"), (2, u "$VALUES"), (0, u "[Lcom/example/sunder/sunder/query/Step$Kind;"), (6, .class_ 28), (1, u "java/lang/Enum"), (27, .class_ 57), (0, u "com/example/sunder/sunder/query/Step")] 2

/-- com/example/sunder/sunder/query/Step$Kind -/
def k8 : Class := { plain "com/example/sunder/sunder/query/Step$Kind" (some 7) with
  accessFlags := 16432
  interfaces := #[]
  cf := some (fileOf pool8 1 #[.nestHost 56] #[] 16432 26 #[] #[{ accessFlags := 16409, nameIndex := 5, descriptorIndex := 6, attributes := #[] }, { accessFlags := 16409, nameIndex := 9, descriptorIndex := 6, attributes := #[] }, { accessFlags := 16409, nameIndex := 12, descriptorIndex := 6, attributes := #[] }, { accessFlags := 16409, nameIndex := 15, descriptorIndex := 6, attributes := #[] }, { accessFlags := 4122, nameIndex := 18, descriptorIndex := 19, attributes := #[] }])
  fields := #[{ name := "ELEMENT", type := (.object "com/example/sunder/sunder/query/Step$Kind"), accessFlags := 16409, slot := 0, constantValue := 0 }, { name := "ATTRIBUTE", type := (.object "com/example/sunder/sunder/query/Step$Kind"), accessFlags := 16409, slot := 1, constantValue := 0 }, { name := "TEXT", type := (.object "com/example/sunder/sunder/query/Step$Kind"), accessFlags := 16409, slot := 2, constantValue := 0 }, { name := "SELF", type := (.object "com/example/sunder/sunder/query/Step$Kind"), accessFlags := 16409, slot := 3, constantValue := 0 }, { name := "$VALUES", type := (.array (.object "com/example/sunder/sunder/query/Step$Kind")), accessFlags := 4122, slot := 4, constantValue := 0 }]
  methods := #[]
  instanceTypes := #[(.object "java/lang/String"), .int, .int]
  staticTypes := #[(.object "com/example/sunder/sunder/query/Step$Kind"), (.object "com/example/sunder/sunder/query/Step$Kind"), (.object "com/example/sunder/sunder/query/Step$Kind"), (.object "com/example/sunder/sunder/query/Step$Kind"), (.array (.object "com/example/sunder/sunder/query/Step$Kind"))]
  resolved := Array.replicate 60 none
  statics := some 0 }

def pool9 : Array CpInfo := pool [(2, .class_ 4), (1, u "java/lang/CharSequence"), (42, .class_ 48), (0, u "java/lang/CharSequence$1CodePointIterator"), (10, .class_ 60), (0, u "java/lang/CharSequence$1CharIterator"), (5, .class_ 67), (0, u "java/lang/Object")] 63

/-- java/lang/CharSequence -/
def k9 : Class := { plain "java/lang/CharSequence" (some 0) with
  accessFlags := 1537
  interfaces := #[]
  cf := some (fileOf pool9 2 #[.nestMembers #[47, 59]] #[] 1537 66 #[] #[])
  fields := #[]
  methods := #[]
  instanceTypes := #[]
  staticTypes := #[]
  resolved := Array.replicate 131 none
  statics := none }

def pool10 : Array CpInfo := pool [(1, .class_ 2), (0, u "java/lang/constant/ConstantDesc"), (0, .class_ 4), (0, u "java/lang/Object")] 32

/-- java/lang/constant/ConstantDesc -/
def k10 : Class := { plain "java/lang/constant/ConstantDesc" (some 0) with
  accessFlags := 1537
  interfaces := #[]
  cf := some (fileOf pool10 1 #[] #[] 1537 3 #[] #[])
  fields := #[]
  methods := #[]
  instanceTypes := #[]
  staticTypes := #[]
  resolved := Array.replicate 37 none
  statics := none }

def pool11 : Array CpInfo := pool [(1, .methodref 2 3), (0, .class_ 4), (0, .nameAndType 5 6), (0, u "java/lang/Object"), (0, u "<init>"), (0, u "()V"), (0, .string 8), (0, u ""), (0, .fieldref 10 11), (0, .class_ 12), (0, .nameAndType 13 14), (0, u "java/lang/String"), (0, u "value"), (0, u "[B"), (0, .fieldref 10 16), (0, .nameAndType 17 18), (0, u "coder"), (0, u "B"), (2, u "hash"), (0, u "I"), (2, u "hashIsZero"), (0, u "Z"), (0, .methodref 10 28), (0, .nameAndType 5 29), (0, u "([CIILjava/lang/Void;)V"), (8, .fieldref 10 39), (0, .nameAndType 40 26), (0, u "COMPACT_STRINGS"), (1, .class_ 44), (1, u "java/lang/StringUTF16"), (0, u "compress"), (1, .methodref 42 48), (0, .nameAndType 49 50), (0, u "coderFromArrayLen"), (0, u "([BI)B"), (56, .class_ 109), (1, u "java/lang/StringLatin1"), (67, .methodref 42 178), (0, .nameAndType 45 179), (0, u "([CII)[B"), (361, .methodref 107 542), (0, .nameAndType 543 544), (0, u "equals"), (0, u "([B[B)Z"), (28, u "(Ljava/lang/Object;)Z"), (1, .class_ 576), (0, u "java/lang/CharSequence"), (22, u "CASE_INSENSITIVE_ORDER"), (0, u "Ljava/util/Comparator;"), (409, u "([C)V"), (90, u "serialPersistentFields"), (0, u "[Ljava/io/ObjectStreamField;"), (0, .class_ 1104), (0, u "java/lang/String$CaseInsensitiveComparator"), (1, .class_ 1107), (0, u "java/io/Serializable"), (0, .class_ 1109), (0, u "java/lang/Comparable"), (0, .class_ 1111), (0, u "java/lang/constant/Constable"), (0, .class_ 1113), (0, u "java/lang/constant/ConstantDesc"), (2, u "serialVersionUID"), (0, u "J"), (3, u "REPL"), (0, u "C"), (2, u "LATIN1"), (1, u "UTF16")] 323

def k11m0 : Method := { name := "<init>", desc := "()V", sig := { parameters := [], returnType := none }, accessFlags := 1, code := none }
def k11c1 : Code := { maxStack := 5, maxLocals := 2, code := jdk_42_method_3_code, exceptionTable := #[], attributes := #[] }
def k11m1 : Method := { name := "<init>", desc := "([C)V", sig := { parameters := [(.array .char)], returnType := none }, accessFlags := 1, code := some k11c1 }
def k11c2 : Code := { maxStack := 2, maxLocals := 3, code := jdk_42_method_66_code, exceptionTable := #[], attributes := #[] }
def k11m2 : Method := { name := "equals", desc := "(Ljava/lang/Object;)Z", sig := { parameters := [(.object "java/lang/Object")], returnType := some .boolean }, accessFlags := 1, code := some k11c2 }
def k11c3 : Code := { maxStack := 4, maxLocals := 6, code := jdk_42_method_149_code, exceptionTable := #[], attributes := #[] }
def k11m3 : Method := { name := "<init>", desc := "([CIILjava/lang/Void;)V", sig := { parameters := [(.array .char), .int, .int, (.object "java/lang/Void")], returnType := none }, accessFlags := 2, code := some k11c3 }
/-- java/lang/String -/
def k11 : Class := { plain "java/lang/String" (some 0) with
  accessFlags := 49
  interfaces := #[6, 5, 9, 4, 10]
  cf := some (fileOf pool11 10 #[.nestMembers #[1103]] #[{ accessFlags := 1, nameIndex := 5, descriptorIndex := 6, attributes := #[] }, { accessFlags := 1, nameIndex := 5, descriptorIndex := 1010, attributes := #[] }, { accessFlags := 1, nameIndex := 543, descriptorIndex := 573, attributes := #[] }, { accessFlags := 2, nameIndex := 5, descriptorIndex := 29, attributes := #[] }] 49 2 #[1106, 1108, 575, 1110, 1112] #[{ accessFlags := 18, nameIndex := 13, descriptorIndex := 14, attributes := #[] }, { accessFlags := 18, nameIndex := 17, descriptorIndex := 18, attributes := #[] }, { accessFlags := 2, nameIndex := 21, descriptorIndex := 22, attributes := #[] }, { accessFlags := 2, nameIndex := 25, descriptorIndex := 26, attributes := #[] }, { accessFlags := 26, nameIndex := 1116, descriptorIndex := 1117, attributes := #[] }, { accessFlags := 24, nameIndex := 40, descriptorIndex := 26, attributes := #[] }, { accessFlags := 26, nameIndex := 1101, descriptorIndex := 1102, attributes := #[] }, { accessFlags := 26, nameIndex := 1121, descriptorIndex := 1122, attributes := #[] }, { accessFlags := 25, nameIndex := 599, descriptorIndex := 600, attributes := #[] }, { accessFlags := 24, nameIndex := 1125, descriptorIndex := 18, attributes := #[] }, { accessFlags := 24, nameIndex := 1127, descriptorIndex := 18, attributes := #[] }])
  fields := #[{ name := "value", type := (.array .byte), accessFlags := 18, slot := 0, constantValue := 0 }, { name := "coder", type := .byte, accessFlags := 18, slot := 1, constantValue := 0 }, { name := "hash", type := .int, accessFlags := 2, slot := 2, constantValue := 0 }, { name := "hashIsZero", type := .boolean, accessFlags := 2, slot := 3, constantValue := 0 }, { name := "serialVersionUID", type := .long, accessFlags := 26, slot := 0, constantValue := 0 }, { name := "COMPACT_STRINGS", type := .boolean, accessFlags := 24, slot := 1, constantValue := 0 }, { name := "serialPersistentFields", type := (.array (.object "java/io/ObjectStreamField")), accessFlags := 26, slot := 2, constantValue := 0 }, { name := "REPL", type := .char, accessFlags := 26, slot := 3, constantValue := 0 }, { name := "CASE_INSENSITIVE_ORDER", type := (.object "java/util/Comparator"), accessFlags := 25, slot := 4, constantValue := 0 }, { name := "LATIN1", type := .byte, accessFlags := 24, slot := 5, constantValue := 0 }, { name := "UTF16", type := .byte, accessFlags := 24, slot := 6, constantValue := 0 }]
  methods := #[k11m0, k11m1, k11m2, k11m3]
  instanceTypes := #[(.array .byte), .byte, .int, .boolean]
  staticTypes := #[.long, .boolean, (.array (.object "java/io/ObjectStreamField")), .char, (.object "java/util/Comparator"), .byte, .byte]
  resolved := Array.replicate 1451 none
  statics := some 1 }

def pool12 : Array CpInfo := pool [(6, .class_ 8), (1, u "java/lang/Object"), (0, u "<init>"), (0, u "()V"), (1, .class_ 14), (1, u "java/lang/StringUTF16"), (31, u "$assertionsDisabled"), (0, u "Z"), (13, u "HI_BYTE_SHIFT"), (0, u "I"), (2, u "LO_BYTE_SHIFT"), (49, .methodref 12 116), (0, .nameAndType 117 118), (0, u "compress"), (0, u "([CI[BII)I"), (3, u "([CII)[B"), (138, u "coderFromArrayLen"), (0, u "([BI)B"), (106, .class_ 371), (1, u "java/lang/StringUTF16$LinesSpliterator"), (58, u "MAX_LENGTH"), (196, .class_ 628), (0, u "java/lang/StringUTF16$CodePointsSpliterator"), (0, .class_ 630), (0, u "java/lang/StringUTF16$CharsSpliterator")] 4

def k12m0 : Method := { name := "<init>", desc := "()V", sig := { parameters := [], returnType := none }, accessFlags := 0, code := none }
def k12c1 : Code := { maxStack := 2, maxLocals := 2, code := jdk_52_method_15_code, exceptionTable := #[], attributes := #[] }
def k12m1 : Method := { name := "coderFromArrayLen", desc := "([BI)B", sig := { parameters := [(.array .byte), .int], returnType := some .byte }, accessFlags := 8, code := some k12c1 }
def k12c2 : Code := { maxStack := 5, maxLocals := 6, code := jdk_52_method_16_code, exceptionTable := #[], attributes := #[] }
def k12m2 : Method := { name := "compress", desc := "([CII)[B", sig := { parameters := [(.array .char), .int, .int], returnType := some (.array .byte) }, accessFlags := 9, code := some k12c2 }
def k12c3 : Code := { maxStack := 3, maxLocals := 7, code := jdk_52_method_21_code, exceptionTable := #[], attributes := #[] }
def k12m3 : Method := { name := "compress", desc := "([CI[BII)I", sig := { parameters := [(.array .char), .int, (.array .byte), .int, .int], returnType := some .int }, accessFlags := 9, code := some k12c3 }
/-- java/lang/StringUTF16 -/
def k12 : Class := { plain "java/lang/StringUTF16" (some 0) with
  accessFlags := 48
  interfaces := #[]
  cf := some (fileOf pool12 12 #[.nestMembers #[627, 629, 369]] #[{ accessFlags := 0, nameIndex := 9, descriptorIndex := 10, attributes := #[] }, { accessFlags := 8, nameIndex := 261, descriptorIndex := 262, attributes := #[] }, { accessFlags := 9, nameIndex := 117, descriptorIndex := 122, attributes := #[] }, { accessFlags := 9, nameIndex := 117, descriptorIndex := 118, attributes := #[] }] 48 6 #[] #[{ accessFlags := 26, nameIndex := 61, descriptorIndex := 62, attributes := #[] }, { accessFlags := 26, nameIndex := 65, descriptorIndex := 62, attributes := #[] }, { accessFlags := 24, nameIndex := 430, descriptorIndex := 62, attributes := #[] }, { accessFlags := 4120, nameIndex := 46, descriptorIndex := 47, attributes := #[] }])
  fields := #[{ name := "HI_BYTE_SHIFT", type := .int, accessFlags := 26, slot := 0, constantValue := 0 }, { name := "LO_BYTE_SHIFT", type := .int, accessFlags := 26, slot := 1, constantValue := 0 }, { name := "MAX_LENGTH", type := .int, accessFlags := 24, slot := 2, constantValue := 0 }, { name := "$assertionsDisabled", type := .boolean, accessFlags := 4120, slot := 3, constantValue := 0 }]
  methods := #[k12m0, k12m1, k12m2, k12m3]
  instanceTypes := #[]
  staticTypes := #[.int, .int, .int, .boolean]
  resolved := Array.replicate 635 none
  statics := none }

def pool13 : Array CpInfo := pool [(4, .class_ 6), (1, u "java/lang/Object"), (0, u "<init>"), (0, u "()V"), (5, .class_ 16), (1, u "java/lang/StringLatin1"), (104, u "$assertionsDisabled"), (0, u "Z"), (98, .class_ 223), (1, u "java/lang/StringLatin1$LinesSpliterator"), (57, u "equals"), (0, u "([B[B)Z"), (107, .class_ 391), (0, u "java/lang/StringLatin1$CharsSpliterator")] 3

def k13m0 : Method := { name := "<init>", desc := "()V", sig := { parameters := [], returnType := none }, accessFlags := 0, code := none }
def k13c1 : Code := { maxStack := 3, maxLocals := 3, code := jdk_43_method_13_code, exceptionTable := #[], attributes := #[] }
def k13m1 : Method := { name := "equals", desc := "([B[B)Z", sig := { parameters := [(.array .byte), (.array .byte)], returnType := some .boolean }, accessFlags := 9, code := some k13c1 }
/-- java/lang/StringLatin1 -/
def k13 : Class := { plain "java/lang/StringLatin1" (some 0) with
  accessFlags := 48
  interfaces := #[]
  cf := some (fileOf pool13 14 #[.nestMembers #[390, 221]] #[{ accessFlags := 0, nameIndex := 7, descriptorIndex := 8, attributes := #[] }, { accessFlags := 9, nameIndex := 281, descriptorIndex := 282, attributes := #[] }] 48 4 #[] #[{ accessFlags := 4120, nameIndex := 121, descriptorIndex := 122, attributes := #[] }])
  fields := #[{ name := "$assertionsDisabled", type := .boolean, accessFlags := 4120, slot := 0, constantValue := 0 }]
  methods := #[k13m0, k13m1]
  instanceTypes := #[]
  staticTypes := #[.boolean]
  resolved := Array.replicate 395 none
  statics := none }

def pool14 : Array CpInfo := pool [(2, .class_ 4), (1, u "java/lang/Object"), (0, u "<init>"), (0, u "()V"), (17, .class_ 26), (1, u "jdk/internal/util/Preconditions"), (28, .class_ 56), (0, u "jdk/internal/util/Preconditions$4"), (57, .class_ 115), (0, u "jdk/internal/util/Preconditions$1"), (7, u "SIOOBE_FORMATTER"), (0, u "Ljava/util/function/BiFunction;"), (0, .class_ 126), (0, u "jdk/internal/util/Preconditions$2"), (3, u "AIOOBE_FORMATTER"), (0, .class_ 132), (0, u "jdk/internal/util/Preconditions$3"), (3, u "IOOBE_FORMATTER")] 57

def k14m0 : Method := { name := "<init>", desc := "()V", sig := { parameters := [], returnType := none }, accessFlags := 1, code := none }
/-- jdk/internal/util/Preconditions -/
def k14 : Class := { plain "jdk/internal/util/Preconditions" (some 0) with
  accessFlags := 33
  interfaces := #[]
  cf := some (fileOf pool14 24 #[.nestMembers #[55, 131, 125, 114]] #[{ accessFlags := 1, nameIndex := 5, descriptorIndex := 6, attributes := #[] }] 33 2 #[] #[{ accessFlags := 25, nameIndex := 123, descriptorIndex := 124, attributes := #[] }, { accessFlags := 25, nameIndex := 130, descriptorIndex := 124, attributes := #[] }, { accessFlags := 25, nameIndex := 136, descriptorIndex := 124, attributes := #[] }])
  fields := #[{ name := "SIOOBE_FORMATTER", type := (.object "java/util/function/BiFunction"), accessFlags := 25, slot := 0, constantValue := 0 }, { name := "AIOOBE_FORMATTER", type := (.object "java/util/function/BiFunction"), accessFlags := 25, slot := 1, constantValue := 0 }, { name := "IOOBE_FORMATTER", type := (.object "java/util/function/BiFunction"), accessFlags := 25, slot := 2, constantValue := 0 }]
  methods := #[k14m0]
  instanceTypes := #[]
  staticTypes := #[(.object "java/util/function/BiFunction"), (.object "java/util/function/BiFunction"), (.object "java/util/function/BiFunction")]
  resolved := Array.replicate 194 none
  statics := some 2 }

def pool15 : Array CpInfo := pool [(9, u "<init>"), (6, .class_ 18), (1, u "java/lang/Object"), (0, u "()V"), (1, .class_ 23), (1, u "jdk/internal/util/ArraysSupport"), (0, u "LOG2_ARRAY_LONG_INDEX_SCALE"), (0, u "I"), (2, u "U"), (0, u "Ljdk/internal/misc/Unsafe;"), (8, u "BIG_ENDIAN"), (0, u "Z"), (8, u "LOG2_BYTE_BIT_SIZE"), (4, u "LOG2_ARRAY_INT_INDEX_SCALE"), (54, u "JLA"), (0, u "Ljdk/internal/access/JavaLangAccess;"), (11, u "LOG2_ARRAY_BOOLEAN_INDEX_SCALE"), (9, u "LOG2_ARRAY_BYTE_INDEX_SCALE"), (5, u "LOG2_ARRAY_CHAR_INDEX_SCALE"), (5, u "LOG2_ARRAY_SHORT_INDEX_SCALE"), (18, u "LOG2_ARRAY_FLOAT_INDEX_SCALE"), (24, u "LOG2_ARRAY_DOUBLE_INDEX_SCALE"), (89, u "T_BOOLEAN"), (2, u "T_CHAR"), (1, u "T_FLOAT"), (1, u "T_DOUBLE"), (1, u "T_BYTE"), (1, u "T_SHORT"), (1, u "T_INT"), (1, u "T_LONG"), (1, u "SOFT_MAX_ARRAY_LENGTH")] 83

def k15m0 : Method := { name := "<init>", desc := "()V", sig := { parameters := [], returnType := none }, accessFlags := 2, code := none }
/-- jdk/internal/util/ArraysSupport -/
def k15 : Class := { plain "jdk/internal/util/ArraysSupport" (some 0) with
  accessFlags := 33
  interfaces := #[]
  cf := some (fileOf pool15 21 #[] #[{ accessFlags := 2, nameIndex := 9, descriptorIndex := 19, attributes := #[] }] 33 16 #[] #[{ accessFlags := 24, nameIndex := 28, descriptorIndex := 29, attributes := #[] }, { accessFlags := 26, nameIndex := 38, descriptorIndex := 39, attributes := #[] }, { accessFlags := 25, nameIndex := 121, descriptorIndex := 25, attributes := #[] }, { accessFlags := 25, nameIndex := 131, descriptorIndex := 25, attributes := #[] }, { accessFlags := 25, nameIndex := 137, descriptorIndex := 25, attributes := #[] }, { accessFlags := 25, nameIndex := 143, descriptorIndex := 25, attributes := #[] }, { accessFlags := 25, nameIndex := 53, descriptorIndex := 25, attributes := #[] }, { accessFlags := 25, nameIndex := 24, descriptorIndex := 25, attributes := #[] }, { accessFlags := 25, nameIndex := 162, descriptorIndex := 25, attributes := #[] }, { accessFlags := 25, nameIndex := 187, descriptorIndex := 25, attributes := #[] }, { accessFlags := 26, nameIndex := 48, descriptorIndex := 25, attributes := #[] }, { accessFlags := 25, nameIndex := 277, descriptorIndex := 25, attributes := #[] }, { accessFlags := 25, nameIndex := 280, descriptorIndex := 25, attributes := #[] }, { accessFlags := 25, nameIndex := 282, descriptorIndex := 25, attributes := #[] }, { accessFlags := 25, nameIndex := 284, descriptorIndex := 25, attributes := #[] }, { accessFlags := 25, nameIndex := 286, descriptorIndex := 25, attributes := #[] }, { accessFlags := 25, nameIndex := 288, descriptorIndex := 25, attributes := #[] }, { accessFlags := 25, nameIndex := 290, descriptorIndex := 25, attributes := #[] }, { accessFlags := 25, nameIndex := 292, descriptorIndex := 25, attributes := #[] }, { accessFlags := 26, nameIndex := 108, descriptorIndex := 109, attributes := #[] }, { accessFlags := 25, nameIndex := 294, descriptorIndex := 25, attributes := #[] }])
  fields := #[{ name := "U", type := (.object "jdk/internal/misc/Unsafe"), accessFlags := 24, slot := 0, constantValue := 0 }, { name := "BIG_ENDIAN", type := .boolean, accessFlags := 26, slot := 1, constantValue := 0 }, { name := "LOG2_ARRAY_BOOLEAN_INDEX_SCALE", type := .int, accessFlags := 25, slot := 2, constantValue := 0 }, { name := "LOG2_ARRAY_BYTE_INDEX_SCALE", type := .int, accessFlags := 25, slot := 3, constantValue := 0 }, { name := "LOG2_ARRAY_CHAR_INDEX_SCALE", type := .int, accessFlags := 25, slot := 4, constantValue := 0 }, { name := "LOG2_ARRAY_SHORT_INDEX_SCALE", type := .int, accessFlags := 25, slot := 5, constantValue := 0 }, { name := "LOG2_ARRAY_INT_INDEX_SCALE", type := .int, accessFlags := 25, slot := 6, constantValue := 0 }, { name := "LOG2_ARRAY_LONG_INDEX_SCALE", type := .int, accessFlags := 25, slot := 7, constantValue := 0 }, { name := "LOG2_ARRAY_FLOAT_INDEX_SCALE", type := .int, accessFlags := 25, slot := 8, constantValue := 0 }, { name := "LOG2_ARRAY_DOUBLE_INDEX_SCALE", type := .int, accessFlags := 25, slot := 9, constantValue := 0 }, { name := "LOG2_BYTE_BIT_SIZE", type := .int, accessFlags := 26, slot := 10, constantValue := 0 }, { name := "T_BOOLEAN", type := .int, accessFlags := 25, slot := 11, constantValue := 0 }, { name := "T_CHAR", type := .int, accessFlags := 25, slot := 12, constantValue := 0 }, { name := "T_FLOAT", type := .int, accessFlags := 25, slot := 13, constantValue := 0 }, { name := "T_DOUBLE", type := .int, accessFlags := 25, slot := 14, constantValue := 0 }, { name := "T_BYTE", type := .int, accessFlags := 25, slot := 15, constantValue := 0 }, { name := "T_SHORT", type := .int, accessFlags := 25, slot := 16, constantValue := 0 }, { name := "T_INT", type := .int, accessFlags := 25, slot := 17, constantValue := 0 }, { name := "T_LONG", type := .int, accessFlags := 25, slot := 18, constantValue := 0 }, { name := "JLA", type := (.object "jdk/internal/access/JavaLangAccess"), accessFlags := 26, slot := 19, constantValue := 0 }, { name := "SOFT_MAX_ARRAY_LENGTH", type := .int, accessFlags := 25, slot := 20, constantValue := 0 }]
  methods := #[k15m0]
  instanceTypes := #[]
  staticTypes := #[(.object "jdk/internal/misc/Unsafe"), .boolean, .int, .int, .int, .int, .int, .int, .int, .int, .int, .int, .int, .int, .int, .int, .int, .int, .int, (.object "jdk/internal/access/JavaLangAccess"), .int]
  resolved := Array.replicate 378 none
  statics := none }

def pool16 : Array CpInfo := pool [(1, u "java/lang/Cloneable"), (0, .class_ 1), (0, u "java/lang/Object"), (0, .class_ 3)] 3

/-- java/lang/Cloneable -/
def k16 : Class := { plain "java/lang/Cloneable" (some 0) with
  accessFlags := 1537
  interfaces := #[]
  cf := some (fileOf pool16 2 #[] #[] 1537 4 #[] #[])
  fields := #[]
  methods := #[]
  instanceTypes := #[]
  staticTypes := #[]
  resolved := Array.replicate 8 none
  statics := none }

/-- the primitive byte -/
def k17 : Class := { plain "byte" none with kind := .primitive 'B', accessFlags := 0x411 }
/-- [B -/
def k18 : Class := { plain "[B" (some 0) with kind := .array 17 .byte, interfaces := #[16, 6], accessFlags := 1041 }

/-- the primitive char -/
def k19 : Class := { plain "char" none with kind := .primitive 'C', accessFlags := 0x411 }
/-- [C -/
def k20 : Class := { plain "[C" (some 0) with kind := .array 19 .char, interfaces := #[16, 6], accessFlags := 1041 }

/-- the primitive int -/
def k21 : Class := { plain "int" none with kind := .primitive 'I', accessFlags := 0x411 }
/-- [I -/
def k22 : Class := { plain "[I" (some 0) with kind := .array 21 .int, interfaces := #[16, 6], accessFlags := 1041 }

def heap : Heap := #[{ cls := 8, slots := #[.ref 3, .ref 4, .ref 5, .ref 6, .null], vm := .statics 8 },
  { cls := 11, slots := #[.long 0, .int 1, .null, .int 0, .null, .int 0, .int 0], vm := .statics 11 },
  { cls := 14, slots := #[.null, .null, .null], vm := .statics 14 },
  { cls := 8, slots := #[.null, .int 0, .int 0], vm := .none },
  { cls := 8, slots := #[.null, .int 1, .int 0], vm := .none },
  { cls := 8, slots := #[.null, .int 2, .int 0], vm := .none },
  { cls := 8, slots := #[.null, .int 3, .int 0], vm := .none }]
def classes : Array Class := #[k0, k1, k2, k3, k4, k5, k6, k7, k8, k9, k10, k11, k12, k13, k14, k15, k16, k17, k18, k19, k20, k21, k22]
def interned : List (Array UInt16 × Addr) := []
def slotsUsed : Nat := 27
def theMethod : MethodId := ⟨1, 1⟩
def args0 : Array Value := #[.int 5, .int 3, .int 1, .int 2, .int 0]
def aboutOver (below : List Frame) : State where
  vm := { classes := classes, interned := interned.toArray }
  heap := heap
  slotsUsed := slotsUsed
  threads := #[{ frames := .invoking theMethod args0 :: below }]
def below0 : List Frame := [.native { method := ⟨0, 0⟩, args := #[] }]
def about1 : State := aboutOver below0
def p0 : Program := .bare "" "" ""
def e0 : Env := launch0.env 0 0 0
theorem w_frames : about1.frames = Frame.invoking theMethod args0 :: below0 := rfl
set_option maxRecDepth 65536 in
theorem w_args : argsFit about1.vm theMethod args0 = true := by decide +kernel
set_option maxRecDepth 65536 in
theorem w_heap : heapFits about1 = true := by decide +kernel
set_option maxRecDepth 65536 in
theorem w_runnable : about1.curStatus? = some .runnable := by decide +kernel
set_option maxRecDepth 65536 in
theorem w_alone : about1.alone = true := by decide +kernel
set_option maxRecDepth 65536 in
theorem w_named : about1.methodNamed? x = some theMethod := by decide +kernel
set_option maxRecDepth 65536 in
theorem w_hears : about1.hears theMethod below0 = true := by decide +kernel
set_option maxRecDepth 65536 in
theorem w_ripe : about1.ripe theMethod args0 below0 = true := by decide +kernel
theorem w_running : about1.status = .running := rfl
set_option maxRecDepth 65536 in
theorem w_room : about1.hasRoom e0.platform room_1 = true :=
  launch0.hasRoom_least _ room_1 (by decide +kernel) (by decide +kernel) (by decide +kernel) (by decide +kernel) (by decide +kernel) (by decide +kernel)
theorem allAtoms_all (ts : List Jvm.Cond) (a : Array Jvm.Value) (st : Jvm.State) : (allAtoms ts).before a st = ts.all (fun c => c.before a st) := by
  induction ts with
  | nil => rfl
  | cons c t ih =>
    show (Jvm.Cond.and c (allAtoms t)).before a st = _
    rw [Jvm.Cond.before_and, ih, List.all_cons]
def words1 : List Jvm.Cond := Jvm.Cond.code x code maxLocals ret :: tables_1
/-- a 'code' word, met by the world's own term for the bytes: nothing is compared byte by byte -/
theorem code_word {y : MethodName} {bytes : ByteArray} {mx : Nat} {rt : Option FieldType} {a : Array Value} {s : State} {m : MethodId} {meth : Method} {c : Code} (h1 : s.methodNamed? y = some m) (h2 : s.vm.method? m = some meth) (h3 : meth.code = some c) (h4 : c.code = bytes)
    (h5 : (c.maxLocals == mx && c.exceptionTable.isEmpty && decide (c.maxStack ≤ mostOperands) && decide (meth.sig.returnType = rt) && !meth.locks && decide (parseMethodDescriptor y.desc = some meth.sig)) = true) : (Jvm.Cond.code y bytes mx rt).before a s = true := by
  simp only [Bool.and_eq_true, beq_iff_eq, Bool.not_eq_true', decide_eq_true_eq] at h5
  obtain ⟨⟨⟨⟨⟨g1, g2⟩, g3⟩, g4⟩, g5⟩, g6⟩ := h5
  simp [Cond.before, Cond.holds, Cond.value, h1, h2, h3, h4, g1, g2, g3, g4, g5, g6]
def isCode : Jvm.Cond → Bool
  | .code _ _ _ _ => true
  | _ => false
theorem all_split {L : List Jvm.Cond} {P : Jvm.Cond → Bool} (h1 : L.all (fun c => isCode c || P c) = true) (h2 : ∀ c ∈ L.filter isCode, P c = true) : L.all P = true := by
  refine List.all_eq_true.mpr fun c hc => ?_
  have h := List.all_eq_true.mp h1 c hc
  rcases Bool.eq_false_or_eq_true (isCode c) with hi | hi
  · exact h2 c (List.mem_filter.mpr ⟨hc, hi⟩)
  · simpa [hi] using h
set_option maxRecDepth 65536 in
theorem w_c0 : (Jvm.Cond.code x code maxLocals ret).before args0 about1 = true := code_word (m := ⟨1, 1⟩) (meth := k1m1) (c := k1c1) (by decide +kernel) rfl rfl rfl (by decide +kernel)
set_option maxRecDepth 65536 in
theorem w_c1 : (Jvm.Cond.code ({ cls := "com/example/sunder/sunder/query/StepAdmitsEveryPinLaw", name := "pick", desc := "(II)I" } : Jvm.MethodName) method_3_code (2 : Nat) (Option.some Jvm.ClassFile.FieldType.int)).before args0 about1 = true := code_word (m := ⟨1, 2⟩) (meth := k1m2) (c := k1c2) (by decide +kernel) rfl rfl rfl (by decide +kernel)
set_option maxRecDepth 65536 in
theorem w_c2 : (Jvm.Cond.code ({ cls := "com/example/sunder/sunder/query/StepAdmitsEveryPinLaw", name := "kind", desc := "(I)Lcom/example/sunder/sunder/query/Step$Kind;" } : Jvm.MethodName) method_6_code (2 : Nat) (Option.some (Jvm.ClassFile.FieldType.object "com/example/sunder/sunder/query/Step$Kind"))).before args0 about1 = true := code_word (m := ⟨1, 5⟩) (meth := k1m5) (c := k1c5) (by decide +kernel) rfl rfl rfl (by decide +kernel)
set_option maxRecDepth 65536 in
theorem w_c3 : (Jvm.Cond.code ({ cls := "com/example/sunder/sunder/query/StepAdmitsEveryPinLaw", name := "mk", desc := "(III)Ljava/lang/String;" } : Jvm.MethodName) method_4_code (3 : Nat) (Option.some (Jvm.ClassFile.FieldType.object "java/lang/String"))).before args0 about1 = true := code_word (m := ⟨1, 3⟩) (meth := k1m3) (c := k1c3) (by decide +kernel) rfl rfl rfl (by decide +kernel)
set_option maxRecDepth 65536 in
theorem w_c4 : (Jvm.Cond.code ({ cls := "com/example/sunder/sunder/query/Step", name := "<init>", desc := "(ZLcom/example/sunder/sunder/query/Step$Kind;Ljava/lang/String;Ljava/lang/String;Ljava/util/List;)V" } : Jvm.MethodName) prog_30_method_1_code (6 : Nat) (Option.none : Option Jvm.ClassFile.FieldType)).before args0 about1 = true := code_word (m := ⟨3, 0⟩) (meth := k3m0) (c := k3c0) (by decide +kernel) rfl rfl rfl (by decide +kernel)
set_option maxRecDepth 65536 in
theorem w_c5 : (Jvm.Cond.code ({ cls := "java/lang/Record", name := "<init>", desc := "()V" } : Jvm.MethodName) jdk_30_method_1_code (1 : Nat) (Option.none : Option Jvm.ClassFile.FieldType)).before args0 about1 = true := code_word (m := ⟨2, 0⟩) (meth := k2m0) (c := k2c0) (by decide +kernel) rfl rfl rfl (by decide +kernel)
set_option maxRecDepth 65536 in
theorem w_c6 : (Jvm.Cond.code ({ cls := "java/lang/Object", name := "<init>", desc := "()V" } : Jvm.MethodName) object_method_1_code (1 : Nat) (Option.none : Option Jvm.ClassFile.FieldType)).before args0 about1 = true := code_word (m := ⟨0, 0⟩) (meth := k0m0) (c := k0c0) (by decide +kernel) rfl rfl rfl (by decide +kernel)
set_option maxRecDepth 65536 in
theorem w_c7 : (Jvm.Cond.code ({ cls := "com/example/sunder/sunder/query/StepAdmitsEveryPinLaw", name := "covers", desc := "(IIIIII)Z" } : Jvm.MethodName) method_5_code (6 : Nat) (Option.some Jvm.ClassFile.FieldType.boolean)).before args0 about1 = true := code_word (m := ⟨1, 4⟩) (meth := k1m4) (c := k1c4) (by decide +kernel) rfl rfl rfl (by decide +kernel)
set_option maxRecDepth 65536 in
theorem w_c8 : (Jvm.Cond.code ({ cls := "com/example/sunder/sunder/query/Step", name := "admitsEvery", desc := "(Lcom/example/sunder/sunder/query/Step;)Z" } : Jvm.MethodName) prog_30_method_3_code (2 : Nat) (Option.some Jvm.ClassFile.FieldType.boolean)).before args0 about1 = true := code_word (m := ⟨3, 1⟩) (meth := k3m1) (c := k3c1) (by decide +kernel) rfl rfl rfl (by decide +kernel)
set_option maxRecDepth 65536 in
theorem w_c9 : (Jvm.Cond.code ({ cls := "java/lang/String", name := "<init>", desc := "([C)V" } : Jvm.MethodName) jdk_42_method_3_code (2 : Nat) (Option.none : Option Jvm.ClassFile.FieldType)).before args0 about1 = true := code_word (m := ⟨11, 1⟩) (meth := k11m1) (c := k11c1) (by decide +kernel) rfl rfl rfl (by decide +kernel)
set_option maxRecDepth 65536 in
theorem w_c10 : (Jvm.Cond.code ({ cls := "java/lang/String", name := "<init>", desc := "([CIILjava/lang/Void;)V" } : Jvm.MethodName) jdk_42_method_149_code (6 : Nat) (Option.none : Option Jvm.ClassFile.FieldType)).before args0 about1 = true := code_word (m := ⟨11, 3⟩) (meth := k11m3) (c := k11c3) (by decide +kernel) rfl rfl rfl (by decide +kernel)
set_option maxRecDepth 65536 in
theorem w_c11 : (Jvm.Cond.code ({ cls := "java/lang/StringUTF16", name := "compress", desc := "([CII)[B" } : Jvm.MethodName) jdk_52_method_16_code (6 : Nat) (Option.some (Jvm.ClassFile.FieldType.array Jvm.ClassFile.FieldType.byte))).before args0 about1 = true := code_word (m := ⟨12, 2⟩) (meth := k12m2) (c := k12c2) (by decide +kernel) rfl rfl rfl (by decide +kernel)
set_option maxRecDepth 65536 in
theorem w_c12 : (Jvm.Cond.code ({ cls := "java/lang/StringUTF16", name := "compress", desc := "([CI[BII)I" } : Jvm.MethodName) jdk_52_method_21_code (7 : Nat) (Option.some Jvm.ClassFile.FieldType.int)).before args0 about1 = true := code_word (m := ⟨12, 3⟩) (meth := k12m3) (c := k12c3) (by decide +kernel) rfl rfl rfl (by decide +kernel)
set_option maxRecDepth 65536 in
theorem w_c13 : (Jvm.Cond.code ({ cls := "java/lang/StringUTF16", name := "coderFromArrayLen", desc := "([BI)B" } : Jvm.MethodName) jdk_52_method_15_code (2 : Nat) (Option.some Jvm.ClassFile.FieldType.byte)).before args0 about1 = true := code_word (m := ⟨12, 1⟩) (meth := k12m1) (c := k12c1) (by decide +kernel) rfl rfl rfl (by decide +kernel)
set_option maxRecDepth 65536 in
theorem w_c14 : (Jvm.Cond.code ({ cls := "java/lang/String", name := "equals", desc := "(Ljava/lang/Object;)Z" } : Jvm.MethodName) jdk_42_method_66_code (3 : Nat) (Option.some Jvm.ClassFile.FieldType.boolean)).before args0 about1 = true := code_word (m := ⟨11, 2⟩) (meth := k11m2) (c := k11c2) (by decide +kernel) rfl rfl rfl (by decide +kernel)
set_option maxRecDepth 65536 in
theorem w_c15 : (Jvm.Cond.code ({ cls := "java/lang/StringLatin1", name := "equals", desc := "([B[B)Z" } : Jvm.MethodName) jdk_43_method_13_code (3 : Nat) (Option.some Jvm.ClassFile.FieldType.boolean)).before args0 about1 = true := code_word (m := ⟨13, 1⟩) (meth := k13m1) (c := k13c1) (by decide +kernel) rfl rfl rfl (by decide +kernel)
def codes1 : List Jvm.Cond := [Jvm.Cond.code x code maxLocals ret, Jvm.Cond.code ({ cls := "com/example/sunder/sunder/query/StepAdmitsEveryPinLaw", name := "pick", desc := "(II)I" } : Jvm.MethodName) method_3_code (2 : Nat) (Option.some Jvm.ClassFile.FieldType.int), Jvm.Cond.code ({ cls := "com/example/sunder/sunder/query/StepAdmitsEveryPinLaw", name := "kind", desc := "(I)Lcom/example/sunder/sunder/query/Step$Kind;" } : Jvm.MethodName) method_6_code (2 : Nat) (Option.some (Jvm.ClassFile.FieldType.object "com/example/sunder/sunder/query/Step$Kind")), Jvm.Cond.code ({ cls := "com/example/sunder/sunder/query/StepAdmitsEveryPinLaw", name := "mk", desc := "(III)Ljava/lang/String;" } : Jvm.MethodName) method_4_code (3 : Nat) (Option.some (Jvm.ClassFile.FieldType.object "java/lang/String")), Jvm.Cond.code ({ cls := "com/example/sunder/sunder/query/Step", name := "<init>", desc := "(ZLcom/example/sunder/sunder/query/Step$Kind;Ljava/lang/String;Ljava/lang/String;Ljava/util/List;)V" } : Jvm.MethodName) prog_30_method_1_code (6 : Nat) (Option.none : Option Jvm.ClassFile.FieldType), Jvm.Cond.code ({ cls := "java/lang/Record", name := "<init>", desc := "()V" } : Jvm.MethodName) jdk_30_method_1_code (1 : Nat) (Option.none : Option Jvm.ClassFile.FieldType), Jvm.Cond.code ({ cls := "java/lang/Object", name := "<init>", desc := "()V" } : Jvm.MethodName) object_method_1_code (1 : Nat) (Option.none : Option Jvm.ClassFile.FieldType), Jvm.Cond.code ({ cls := "com/example/sunder/sunder/query/StepAdmitsEveryPinLaw", name := "covers", desc := "(IIIIII)Z" } : Jvm.MethodName) method_5_code (6 : Nat) (Option.some Jvm.ClassFile.FieldType.boolean), Jvm.Cond.code ({ cls := "com/example/sunder/sunder/query/Step", name := "admitsEvery", desc := "(Lcom/example/sunder/sunder/query/Step;)Z" } : Jvm.MethodName) prog_30_method_3_code (2 : Nat) (Option.some Jvm.ClassFile.FieldType.boolean), Jvm.Cond.code ({ cls := "java/lang/String", name := "<init>", desc := "([C)V" } : Jvm.MethodName) jdk_42_method_3_code (2 : Nat) (Option.none : Option Jvm.ClassFile.FieldType), Jvm.Cond.code ({ cls := "java/lang/String", name := "<init>", desc := "([CIILjava/lang/Void;)V" } : Jvm.MethodName) jdk_42_method_149_code (6 : Nat) (Option.none : Option Jvm.ClassFile.FieldType), Jvm.Cond.code ({ cls := "java/lang/StringUTF16", name := "compress", desc := "([CII)[B" } : Jvm.MethodName) jdk_52_method_16_code (6 : Nat) (Option.some (Jvm.ClassFile.FieldType.array Jvm.ClassFile.FieldType.byte)), Jvm.Cond.code ({ cls := "java/lang/StringUTF16", name := "compress", desc := "([CI[BII)I" } : Jvm.MethodName) jdk_52_method_21_code (7 : Nat) (Option.some Jvm.ClassFile.FieldType.int), Jvm.Cond.code ({ cls := "java/lang/StringUTF16", name := "coderFromArrayLen", desc := "([BI)B" } : Jvm.MethodName) jdk_52_method_15_code (2 : Nat) (Option.some Jvm.ClassFile.FieldType.byte), Jvm.Cond.code ({ cls := "java/lang/String", name := "equals", desc := "(Ljava/lang/Object;)Z" } : Jvm.MethodName) jdk_42_method_66_code (3 : Nat) (Option.some Jvm.ClassFile.FieldType.boolean), Jvm.Cond.code ({ cls := "java/lang/StringLatin1", name := "equals", desc := "([B[B)Z" } : Jvm.MethodName) jdk_43_method_13_code (3 : Nat) (Option.some Jvm.ClassFile.FieldType.boolean)]
set_option maxRecDepth 65536 in
theorem codes_eq : words1.filter isCode = codes1 := rfl
theorem w_codes : ∀ c ∈ words1.filter isCode, c.before args0 about1 = true := by
  rw [codes_eq]
  intro c hc
  simp only [codes1, List.mem_cons, List.not_mem_nil, or_false] at hc
  rcases hc with rfl | rfl | rfl | rfl | rfl | rfl | rfl | rfl | rfl | rfl | rfl | rfl | rfl | rfl | rfl | rfl
  · exact w_c0
  · exact w_c1
  · exact w_c2
  · exact w_c3
  · exact w_c4
  · exact w_c5
  · exact w_c6
  · exact w_c7
  · exact w_c8
  · exact w_c9
  · exact w_c10
  · exact w_c11
  · exact w_c12
  · exact w_c13
  · exact w_c14
  · exact w_c15
set_option maxRecDepth 65536 in
theorem w_t1 : (words1.take 24).all (fun c => isCode c || c.before args0 about1) = true := by decide +kernel
set_option maxRecDepth 65536 in
theorem w_t2 : ((words1.drop 24).take 24).all (fun c => isCode c || c.before args0 about1) = true := by decide +kernel
set_option maxRecDepth 65536 in
theorem w_t3 : (((words1.drop 24).drop 24).take 24).all (fun c => isCode c || c.before args0 about1) = true := by decide +kernel
set_option maxRecDepth 65536 in
theorem w_t4 : (((words1.drop 24).drop 24).drop 24).all (fun c => isCode c || c.before args0 about1) = true := by decide +kernel
theorem w_tables : (allAtoms (Jvm.Cond.code x code maxLocals ret :: tables_1)).before args0 about1 = true := by
  rw [allAtoms_all]
  show words1.all (fun c => c.before args0 about1) = true
  refine all_split ?_ w_codes
  rw [← List.take_append_drop 24 words1, List.all_append, w_t1, ← List.take_append_drop 24 (words1.drop 24), List.all_append, w_t2, ← List.take_append_drop 24 ((words1.drop 24).drop 24), List.all_append, w_t3, w_t4]
  rfl
set_option maxRecDepth 65536 in
theorem w_rest : rest_1_c.before args0 about1 = true := by decide +kernel
set_option maxRecDepth 65536 in
theorem w_case : (Jvm.Cond.and given_1 narrow_1).before args0 about1 = true := by decide +kernel
set_option maxRecDepth 65536 in
theorem w_consts : constsHeld consts_1 about1 := Jvm.Lit.constsHeldB_iff.mp (by decide +kernel)
theorem w_applies : (headSpec (Jvm.Cond.code x code maxLocals ret :: tables_1) room_1).applies x e0.platform about1 = true :=
  (Spec.applies_iff w_frames).mpr ⟨w_running, w_runnable, w_alone, w_named, w_hears, w_ripe, w_room, w_tables⟩
theorem atStart : AtStart classFile x code maxLocals ret World_1 tables_1 room_1 Calls_1 rest_1 Pre_1 launch0 p0 e0 about1 theMethod args0 below0 :=
  ⟨lists_1, trivial, launch0.admits_env _ _ _, launch0.least_env, fairChoices_fair.cas, fairChoices_fair.clock, w_frames, w_args, w_heap, w_applies, ⟨w_consts, trivial⟩, w_rest, w_case⟩
end start1
theorem witness_1 : WitnessClaimed_1 := ⟨start1.p0, start1.e0, start1.about1, start1.theMethod, start1.args0, start1.below0, start1.atStart⟩
end Jvm.Pilot.@@N@@
