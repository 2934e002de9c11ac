import JvmDerived
import JvmDerived.Pilot.@@N@@Statement
import JvmDerived.Pilot.@@N@@Code
set_option linter.unusedVariables false
set_option linter.unusedSimpArgs false
namespace Jvm.Pilot.@@N@@
open Jvm Jvm.ClassFile Sem Op Lib Jvm.Free Jvm.Stand Jvm.LawKit Jvm.RoadKit Bundle Jvm.Pilot.@@N@@.Jvm.D
/-! own kit: a walk that goes forward: Go says what is still owed from the state S -/
section OwnGo
variable {p : Program} {l : Launch} {e : Env} {R : Room} {s : State} {m : MethodId} {args : Array Value} {below : List Frame} {meth : Method} {c : Code} {T : State} {locs : List Loc} {cells slots : Nat} {Z : State} {a0 : Array Value} {h : Heap} {G : Outcome → State → Prop} {S S' : State}
def Go (p : Program) (e : Env) (below : List Frame) (G : Outcome → State → Prop) (S : State) : Prop :=
  ∃ s₂ o, Steps p.tables e below S s₂ ∧ s₂.status = .running ∧ Ended s₂ below o ∧ G o s₂
theorem Go.st (h : ∀ t, Steps p.tables e below S' t → Steps p.tables e below S t) (k : Go p e below G S') : Go p e below G S := by
  obtain ⟨s₂, o, h1, h2⟩ := k
  exact ⟨s₂, o, h _ h1, h2⟩
theorem Go.tr (h : Steps p.tables e below S S') (k : Go p e below G S') : Go p e below G S := by
  obtain ⟨s₂, o, h1, h2⟩ := k
  exact ⟨s₂, o, h.trans h1, h2⟩
theorem Go.cast {g g' : JFrame} (q : g = g') (k : Go p e below G (T.setTop g')) : Go p e below G (T.setTop g) := q ▸ k
/-- what a body leaves: Q of the value, the heap and the places written -/
def Left (s : State) (K N : Nat) (Q : Option Value → Heap → List Loc → Prop) : Outcome → State → Prop :=
  fun o t => ∃ v L, o = .returned v ∧ Q v t.heap L ∧ FrameEnd s o t L K N
/-- a body's contract -/
def Pays (l : Launch) (y : MethodName) (bytes : ByteArray) (maxL : Nat) (ret : Option FieldType) (rm : Room) (Z : State) (as' : Array Value) (h0 : Heap) (Q : Option Value → Heap → List Loc → Prop) : Prop :=
  ∀ ws, MetFree l y (head1 (Cond.code y bytes maxL ret :: ws) rm) (fun a U => a = as' ∧ Z.Warmed39 U.vm ∧ U.heap = h0) (fun _ _ _ _ _ => True) (fun _ U o U' => ∃ v L, o = .returned v ∧ Q v U'.heap L ∧ FrameEnd U o U' L rm.cells rm.slots)
theorem Pays.of {y : MethodName} {bytes : ByteArray} {maxL : Nat} {ret : Option FieldType} {rm : Room} {as' : Array Value} {h0 : Heap} {Q : Option Value → Heap → List Loc → Prop} (hx : plainFor y = true)
    (body : ∀ (p : Program) (e : Env) (s : State) (m : MethodId) (below : List Frame) (meth : Method) (c : Code) (T : State), p.tables.exec = Jvm.exec → c.code = bytes → c.maxLocals = maxL → meth.sig.returnType = ret → meth.locks = false → Z.Warmed39 s.vm → s.vm.findClass y.cls = some m.cls → meth.name = y.name →
      T.heap = h0 → Stand p l e rm s m as' below meth c T [] 0 0 → Go p e below (Left s rm.cells rm.slots Q) (T.setTop (entryFrame m as' maxL))) : Pays l y bytes maxL ret rm Z as' h0 Q := by
  intro ws
  refine MetFree.of_bodySF hx hisR ?_
  intro p e s m args below meth c s₁ Bd hml0 hP hK
  obtain ⟨rfl, hZ, hh⟩ := hP
  exact body p e s m below meth c s₁ Bd.exec Bd.bytes hml0 Bd.returns Bd.notSynchronized hZ (findClass_of_methodNamed Bd.named) (name_of_methodNamed Bd.named Bd.method).1 (by rw [← hh, Bd.state]; rfl) (Stand.of_body Bd)
theorem Go.out (X : Stand p l e R s m args below meth c T locs cells slots) {v : Option Value} {K N : Nat} {Q : Option Value → Heap → List Loc → Prop} (hlocks : meth.locks = false) (hv : meth.sig.returnType = none → v = none) (hK : cells ≤ K) (hN : slots ≤ N) (hQ : Q v T.heap locs)
    (st : ∀ fs, (∀ (f : JFrame) (acts : List Action), f.method = m → f.locked = none → f.entered = [] → (doReturn e (T.setTop f) acts v).1 = T.setFrames fs) → Steps p.tables e below S (T.setFrames fs)) : Go p e below (Left s K N Q) S := by
  obtain ⟨fs, hr, hrun, hended, hW, hsame⟩ := X.leave hv hlocks
  exact ⟨_, _, st fs hr, hrun, hended, v, locs, rfl, hQ, ⟨_, rfl⟩, hW, hsame.mono hK hN⟩
theorem ret_b (X : Stand p l e R s m args below meth c T locs cells slots) (hx : p.tables.exec = Jvm.exec) (hlocks : meth.locks = false) (hret : meth.sig.returnType = some .boolean) {pc : Nat} {Ls : Array Slot} {z : Int32} {rest : List Value} {K N : Nat} {Q : Option Value → Heap → List Loc → Prop} (hd : decode c.code pc = .ok (.ireturn, 1)) (hK : cells ≤ K) (hN : slots ≤ N)
    (hQ : Q (some (.int (z &&& 1))) T.heap locs) : Go p e below (Left s K N Q) (T.setTop (mkF m pc Ls (.int z :: rest))) :=
  Go.out X (v := some (.int (z &&& 1))) hlocks (fun h => by rw [hret] at h; cases h) hK hN hQ fun fs hr => retN X hx (t := .boolean) hret (by simp) hd hr
theorem ret_c (X : Stand p l e R s m args below meth c T locs cells slots) (hx : p.tables.exec = Jvm.exec) (hlocks : meth.locks = false) (hret : meth.sig.returnType = some .char) {pc : Nat} {Ls : Array Slot} {z : Int32} {rest : List Value} {K N : Nat} {Q : Option Value → Heap → List Loc → Prop} (hd : decode c.code pc = .ok (.ireturn, 1)) (hK : cells ≤ K) (hN : slots ≤ N)
    (hQ : Q (some (.int (nar .char z))) T.heap locs) : Go p e below (Left s K N Q) (T.setTop (mkF m pc Ls (.int z :: rest))) :=
  Go.out X (v := some (.int (nar .char z))) hlocks (fun h => by rw [hret] at h; cases h) hK hN hQ fun fs hr => retN X hx (t := .char) hret (by simp) hd hr
theorem ret_y (X : Stand p l e R s m args below meth c T locs cells slots) (hx : p.tables.exec = Jvm.exec) (hlocks : meth.locks = false) (hret : meth.sig.returnType = some .byte) {pc : Nat} {Ls : Array Slot} {z : Int32} {rest : List Value} {K N : Nat} {Q : Option Value → Heap → List Loc → Prop} (hd : decode c.code pc = .ok (.ireturn, 1)) (hK : cells ≤ K) (hN : slots ≤ N)
    (hQ : Q (some (.int (nar .byte z))) T.heap locs) : Go p e below (Left s K N Q) (T.setTop (mkF m pc Ls (.int z :: rest))) :=
  Go.out X (v := some (.int (nar .byte z))) hlocks (fun h => by rw [hret] at h; cases h) hK hN hQ fun fs hr => retN X hx (t := .byte) hret (by simp) hd hr
theorem ret_i (X : Stand p l e R s m args below meth c T locs cells slots) (hx : p.tables.exec = Jvm.exec) (hlocks : meth.locks = false) (hret : meth.sig.returnType = some .int) {pc : Nat} {Ls : Array Slot} {z : Int32} {rest : List Value} {K N : Nat} {Q : Option Value → Heap → List Loc → Prop} (hd : decode c.code pc = .ok (.ireturn, 1)) (hK : cells ≤ K) (hN : slots ≤ N)
    (hQ : Q (some (.int z)) T.heap locs) : Go p e below (Left s K N Q) (T.setTop (mkF m pc Ls (.int z :: rest))) :=
  Go.out X (v := some (.int z)) hlocks (fun h => by rw [hret] at h; cases h) hK hN hQ fun fs hr => retOut X hx hret rfl (Or.inl ⟨rfl, Or.inl rfl, z, rfl⟩) hd hr
theorem ret_l (X : Stand p l e R s m args below meth c T locs cells slots) (hx : p.tables.exec = Jvm.exec) (hlocks : meth.locks = false) (hret : meth.sig.returnType = some .long) {pc : Nat} {Ls : Array Slot} {z : Int64} {rest : List Value} {K N : Nat} {Q : Option Value → Heap → List Loc → Prop} (hd : decode c.code pc = .ok (.lreturn, 1)) (hK : cells ≤ K) (hN : slots ≤ N)
    (hQ : Q (some (.long z)) T.heap locs) : Go p e below (Left s K N Q) (T.setTop (mkF m pc Ls (.long z :: rest))) :=
  Go.out X (v := some (.long z)) hlocks (fun h => by rw [hret] at h; cases h) hK hN hQ fun fs hr => retOut X hx hret rfl (Or.inr (Or.inl ⟨rfl, rfl, z, rfl⟩)) hd hr
theorem ret_d (X : Stand p l e R s m args below meth c T locs cells slots) (hx : p.tables.exec = Jvm.exec) (hlocks : meth.locks = false) (hret : meth.sig.returnType = some .double) {pc : Nat} {Ls : Array Slot} {z : UInt64} {rest : List Value} {K N : Nat} {Q : Option Value → Heap → List Loc → Prop} (hd : decode c.code pc = .ok (.dreturn, 1)) (hK : cells ≤ K) (hN : slots ≤ N)
    (hQ : Q (some (.double z)) T.heap locs) : Go p e below (Left s K N Q) (T.setTop (mkF m pc Ls (.double z :: rest))) :=
  Go.out X (v := some (.double z)) hlocks (fun h => by rw [hret] at h; cases h) hK hN hQ fun fs hr => retOut X hx hret rfl (Or.inr (Or.inr (Or.inl ⟨rfl, rfl, z, rfl⟩))) hd hr
theorem ret_a (X : Stand p l e R s m args below meth c T locs cells slots) (hx : p.tables.exec = Jvm.exec) (hlocks : meth.locks = false) {t : FieldType} (hret : meth.sig.returnType = some t) (ht : t.isReference = true) {pc : Nat} {Ls : Array Slot} {v : Value} (hv : v.isRef = true) {rest : List Value} {K N : Nat} {Q : Option Value → Heap → List Loc → Prop} (hd : decode c.code pc = .ok (.areturn, 1)) (hK : cells ≤ K) (hN : slots ≤ N)
    (hQ : Q (some v) T.heap locs) : Go p e below (Left s K N Q) (T.setTop (mkF m pc Ls (v :: rest))) :=
  Go.out X (v := some v) hlocks (fun h => by rw [hret] at h; cases h) hK hN hQ fun fs hr => retOut X hx hret (by rcases ref_cases hv with rfl | ⟨a, rfl⟩ <;> cases t <;> first | rfl | cases ht) (Or.inr (Or.inr (Or.inr (Or.inr ⟨rfl, ht, hv⟩)))) hd hr
theorem ret_v (X : Stand p l e R s m args below meth c T locs cells slots) (hx : p.tables.exec = Jvm.exec) (hlocks : meth.locks = false) (hret : meth.sig.returnType = none) {pc : Nat} {Ls : Array Slot} {K N : Nat} {Q : Option Value → Heap → List Loc → Prop} (hd : decode c.code pc = .ok (.return_, 1)) (hK : cells ≤ K) (hN : slots ≤ N)
    (hQ : Q none T.heap locs) : Go p e below (Left s K N Q) (T.setTop (mkF m pc Ls [])) :=
  Go.out X (v := none) hlocks (fun _ => rfl) hK hN hQ fun fs hr => X.returnOut hx hret hd hr
/-- a call of an instance method, by its contract -/
theorem Go.virt (X : Stand p l e R s m args below meth c T locs cells slots) (hx : p.tables.exec = Jvm.exec) (hZ : Z.Warmed39 s.vm) {own C : String} {index : Nat} {y z : MethodName} (hown : s.vm.findClass own = some m.cls) (wl : (Cond.methodLink own index y).before a0 Z = true) (wd : (Cond.declares y).before a0 Z = true) (nf : NotFace s y)
    (wsel : (Cond.selects C y z).before a0 Z = true) (wi : (Cond.instanceMethod z).before a0 Z = true) {bytes : ByteArray} {maxL : Nat} {ret : Option FieldType} (wc : (Cond.code z bytes maxL ret).before a0 Z = true) (wz : (Cond.initialized z.cls).before a0 Z = true) (hy : y.cls ≠ "java/lang/invoke/MethodHandle" ∧ y.cls ≠ "java/lang/invoke/VarHandle")
    {rm : Room} {Q : Option Value → Heap → List Loc → Prop} {b : Addr} {argsL rest : List Value} (P : Pays l z bytes maxL ret rm Z (.ref b :: argsL).toArray h Q) (eT : T.heap = h) (E : Exa Z h b C) {pc : Nat} {Ls : Array Slot} {st : List Value} (hst : st = argsL.reverse ++ .ref b :: rest) (hsz : Ls.size = c.maxLocals) {ps : List FieldType} {r : Option FieldType} (hpd : parseMethodDescriptor y.desc = some ⟨ps, r⟩) (hlen : argsL.length = ps.length)
    (hd : decode c.code pc = .ok (.invokevirtual index, 3)) (W : Nat) (hW : (rest.map fun v => v.category).sum ≤ W) (hf : rm.frames + 1 ≤ R.frames) (hl : W + (maxL + 11) + rm.locals ≤ R.locals) (hc : cells + rm.cells ≤ R.cells) (hs : slots + rm.slots ≤ R.slots)
    (k : ∀ (v : Option Value) (T' : State) (L : List Loc), Stand p l e R s m args below meth c T' (locs ++ L) (cells + rm.cells) (slots + rm.slots) → Q v T'.heap L → Go p e below G (T'.setTop (mkF m (pc + 3) Ls (v.toList ++ rest)))) : Go p e below G (T.setTop (mkF m pc Ls st)) := by
  obtain ⟨cB, kB, hcB, -, hrecv⟩ := isOf hZ eT E
  obtain ⟨v, _, ⟨T', L', k', n'⟩, -, X', ⟨L, hQ, h1, h2, h3⟩, stp⟩ := X.virtualBack hx hown (mvT hZ wl) (mvT hZ wd) nf (mvT hZ wsel) (mvT hZ wi) hy (backOf (W := W) (P []) hZ wc wz hf hl) hcB hrecv (g := mkF m pc Ls st) rfl hsz (Steps.refl _) (argsL := argsL) (rest := rest) (lenOf hpd hlen) hst (by show 2 * 0 + _ ≤ _; omega) hd (fun _ _ => ⟨rfl, eT, hc, hs⟩)
  dsimp only at X' hQ h1 h2 h3 stp
  subst h1 h2 h3
  exact Go.tr stp (k v T' L X' hQ)
/-- a call of an inherited method through a subclass's name, by its contract -/
theorem Go.up (X : Stand p l e R s m args below meth c T locs cells slots) (hx : p.tables.exec = Jvm.exec) (hZ : Z.Warmed39 s.vm) {own C owner : String} {index : Nat} {xm y : MethodName} (hown : s.vm.findClass own = some m.cls) (wl : (Cond.methodLink own index xm).before a0 Z = true) (wsm : (Cond.sameMethod xm.cls owner xm.name xm.desc).before a0 Z = true)
    (wd : (Cond.declares ⟨owner, xm.name, xm.desc⟩).before a0 Z = true) (wsel : (Cond.selects C xm y).before a0 Z = true) (wi : (Cond.instanceMethod y).before a0 Z = true) {bytes : ByteArray} {maxL : Nat} {ret : Option FieldType} (wc : (Cond.code y bytes maxL ret).before a0 Z = true) (wz : (Cond.initialized y.cls).before a0 Z = true) (hy : owner ≠ "java/lang/invoke/MethodHandle" ∧ owner ≠ "java/lang/invoke/VarHandle")
    {rm : Room} {Q : Option Value → Heap → List Loc → Prop} {b : Addr} {argsL rest : List Value} (P : Pays l y bytes maxL ret rm Z (.ref b :: argsL).toArray h Q) (eT : T.heap = h) (E : Exa Z h b C) {pc : Nat} {Ls : Array Slot} {st : List Value} (hst : st = argsL.reverse ++ .ref b :: rest) (hsz : Ls.size = c.maxLocals) {ps : List FieldType} {r : Option FieldType} (hpd : parseMethodDescriptor xm.desc = some ⟨ps, r⟩) (hlen : argsL.length = ps.length)
    (hd : decode c.code pc = .ok (.invokevirtual index, 3)) (W : Nat) (hW : (rest.map fun v => v.category).sum ≤ W) (hf : rm.frames + 1 ≤ R.frames) (hl : W + (maxL + 11) + rm.locals ≤ R.locals) (hc : cells + rm.cells ≤ R.cells) (hs : slots + rm.slots ≤ R.slots)
    (k : ∀ (v : Option Value) (T' : State) (L : List Loc), Stand p l e R s m args below meth c T' (locs ++ L) (cells + rm.cells) (slots + rm.slots) → Q v T'.heap L → Go p e below G (T'.setTop (mkF m (pc + 3) Ls (v.toList ++ rest)))) : Go p e below G (T.setTop (mkF m pc Ls st)) := by
  obtain ⟨cB, kB, hcB, -, hrecv⟩ := isOf hZ eT E
  obtain ⟨v, _, ⟨T', L', k', n'⟩, -, X', ⟨L, hQ, h1, h2, h3⟩, stp⟩ := X.virtualBackUp hx hown (mvT hZ wl) (mvT hZ wsm) (mvT hZ wd) hy (mvT hZ wsel) (mvT hZ wi) (backOf (W := W) (P []) hZ wc wz hf hl) hcB hrecv (g := mkF m pc Ls st) rfl hsz (Steps.refl _) (argsL := argsL) (rest := rest) (lenOf hpd hlen) hst (by show 2 * 0 + _ ≤ _; omega) hd (fun _ _ => ⟨rfl, eT, hc, hs⟩)
  dsimp only at X' hQ h1 h2 h3 stp
  subst h1 h2 h3
  exact Go.tr stp (k v T' L X' hQ)
/-- a call of a private instance method by invokevirtual, by its contract -/
theorem Go.priv (X : Stand p l e R s m args below meth c T locs cells slots) (hx : p.tables.exec = Jvm.exec) (hZ : Z.Warmed39 s.vm) {own C : String} {index : Nat} {y : MethodName} (hown : s.vm.findClass own = some m.cls) (wl : (Cond.methodLink own index y).before a0 Z = true) (wi : (Cond.instanceMethod y).before a0 Z = true)
    (wsel : (Cond.selects y.cls y y).before a0 Z = true) (wp : (Cond.privateMethod y).before a0 Z = true) {bytes : ByteArray} {maxL : Nat} {ret : Option FieldType} (wc : (Cond.code y bytes maxL ret).before a0 Z = true) (wz : (Cond.initialized y.cls).before a0 Z = true) (hy : y.cls ≠ "java/lang/invoke/MethodHandle" ∧ y.cls ≠ "java/lang/invoke/VarHandle")
    {rm : Room} {Q : Option Value → Heap → List Loc → Prop} {b : Addr} {argsL rest : List Value} (P : Pays l y bytes maxL ret rm Z (.ref b :: argsL).toArray h Q) (eT : T.heap = h) (E : Exa Z h b C) {pc : Nat} {Ls : Array Slot} {st : List Value} (hst : st = argsL.reverse ++ .ref b :: rest) (hsz : Ls.size = c.maxLocals) {ps : List FieldType} {r : Option FieldType} (hpd : parseMethodDescriptor y.desc = some ⟨ps, r⟩) (hlen : argsL.length = ps.length)
    (hd : decode c.code pc = .ok (.invokevirtual index, 3)) (W : Nat) (hW : (rest.map fun v => v.category).sum ≤ W) (hf : rm.frames + 1 ≤ R.frames) (hl : W + (maxL + 11) + rm.locals ≤ R.locals) (hc : cells + rm.cells ≤ R.cells) (hs : slots + rm.slots ≤ R.slots)
    (k : ∀ (v : Option Value) (T' : State) (L : List Loc), Stand p l e R s m args below meth c T' (locs ++ L) (cells + rm.cells) (slots + rm.slots) → Q v T'.heap L → Go p e below G (T'.setTop (mkF m (pc + 3) Ls (v.toList ++ rest)))) : Go p e below G (T.setTop (mkF m pc Ls st)) := by
  obtain ⟨cell, hcell, hobj⟩ := E.cell
  obtain ⟨v, _, ⟨T', L', k', n'⟩, -, X', ⟨L, hQ, h1, h2, h3⟩, stp⟩ := X.privateBack hx hown (mvT hZ wl) (mvT hZ wi) (mvT hZ wsel) (Cond.privateMethod_at (mvP (args := args) hZ wp)) (mvT hZ wc) hy (backOf (W := W) (P []) hZ wc wz hf hl) (g := mkF m pc Ls st) rfl hsz (Steps.refl _) (a := b) (by rw [eT]; exact hcell) hobj (argsL := argsL) (rest := rest) (lenOf hpd hlen) hst (by show 2 * 0 + _ ≤ _; omega) hd (fun _ _ => ⟨rfl, eT, hc, hs⟩)
  dsimp only at X' hQ h1 h2 h3 stp
  subst h1 h2 h3
  exact Go.tr stp (k v T' L X' hQ)
/-- a call of an interface's method, by the contract of the method that it goes to -/
theorem Go.face (X : Stand p l e R s m args below meth c T locs cells slots) (hx : p.tables.exec = Jvm.exec) (hZ : Z.Warmed39 s.vm) {own C : String} {index count : Nat} {xi y : MethodName} (hown : s.vm.findClass own = some m.cls) (wl : (Cond.methodLink own index xi).before a0 Z = true) (wd : (Cond.declares xi).before a0 Z = true)
    (wf : (Cond.interfaceMethod xi.cls xi.cls xi.name xi.desc).before args s = true) (wsel : (Cond.selects C xi y).before a0 Z = true) (wi : (Cond.instanceMethod y).before a0 Z = true) (wpub : (Cond.publicMethod y).before a0 Z = true) (wun : (Cond.unhidden C xi.name xi.desc).before a0 Z = true) (wca : (Cond.castable C xi.cls).before a0 Z = true)
    {bytes : ByteArray} {maxL : Nat} {ret : Option FieldType} (wc : (Cond.code y bytes maxL ret).before a0 Z = true) (wz : (Cond.initialized y.cls).before a0 Z = true) (hy : xi.cls ≠ "java/lang/invoke/MethodHandle" ∧ xi.cls ≠ "java/lang/invoke/VarHandle")
    {rm : Room} {Q : Option Value → Heap → List Loc → Prop} {b : Addr} {argsL rest : List Value} (P : Pays l y bytes maxL ret rm Z (.ref b :: argsL).toArray h Q) (eT : T.heap = h) (E : Exa Z h b C) {pc : Nat} {Ls : Array Slot} {st : List Value} (hst : st = argsL.reverse ++ .ref b :: rest) (hsz : Ls.size = c.maxLocals) {ps : List FieldType} {r : Option FieldType} (hpd : parseMethodDescriptor xi.desc = some ⟨ps, r⟩) (hlen : argsL.length = ps.length)
    (hd : decode c.code pc = .ok (.invokeinterface index count, 5)) (W : Nat) (hW : (rest.map fun v => v.category).sum ≤ W) (hf : rm.frames + 1 ≤ R.frames) (hl : W + (maxL + 11) + rm.locals ≤ R.locals) (hc : cells + rm.cells ≤ R.cells) (hs : slots + rm.slots ≤ R.slots)
    (k : ∀ (v : Option Value) (T' : State) (L : List Loc), Stand p l e R s m args below meth c T' (locs ++ L) (cells + rm.cells) (slots + rm.slots) → Q v T'.heap L → Go p e below G (T'.setTop (mkF m (pc + 5) Ls (v.toList ++ rest)))) : Go p e below G (T.setTop (mkF m pc Ls st)) := by
  obtain ⟨cB, kB, hcB, hkB, hrecv⟩ := isOf hZ eT E
  obtain ⟨v, _, ⟨T', L', k', n'⟩, -, X', ⟨L, hQ, h1, h2, h3⟩, stp⟩ := X.interfaceBack hx hown (mvT hZ wl) (mvT hZ wd) wf (mvT hZ wsel) (mvT hZ wi) (mvT hZ wpub) (mvT hZ wun) (mvT hZ wca) hy (backOf (W := W) (P []) hZ wc wz hf hl) hcB hkB hrecv (g := mkF m pc Ls st) rfl hsz (Steps.refl _) (argsL := argsL) (rest := rest) (lenOf hpd hlen) hst (by show 2 * 0 + _ ≤ _; omega) hd (fun _ _ => ⟨rfl, eT, hc, hs⟩)
  dsimp only at X' hQ h1 h2 h3 stp
  subst h1 h2 h3
  exact Go.tr stp (k v T' L X' hQ)
/-- a call of a constructor, by its contract -/
theorem Go.init (X : Stand p l e R s m args below meth c T locs cells slots) (hx : p.tables.exec = Jvm.exec) (hZ : Z.Warmed39 s.vm) {own : String} {index : Nat} {y : MethodName} (hy1 : y.name = "<init>") (hown : s.vm.findClass own = some m.cls) (wl : (Cond.methodLink own index y).before a0 Z = true)
    (wi : (Cond.instanceMethod y).before a0 Z = true) {bytes : ByteArray} {maxL : Nat} (wc : (Cond.code y bytes maxL none).before a0 Z = true) (wz : (Cond.initialized y.cls).before a0 Z = true) (hy : y.cls ≠ "java/lang/invoke/MethodHandle" ∧ y.cls ≠ "java/lang/invoke/VarHandle")
    {rm : Room} {Q : Option Value → Heap → List Loc → Prop} {b : Addr} {argsL rest : List Value} (P : Pays l y bytes maxL none rm Z (.ref b :: argsL).toArray h Q) (eT : T.heap = h) {pc : Nat} {Ls : Array Slot} {st : List Value} (hst : st = argsL.reverse ++ .ref b :: rest) (hsz : Ls.size = c.maxLocals) {ps : List FieldType} {r : Option FieldType} (hpd : parseMethodDescriptor y.desc = some ⟨ps, r⟩) (hlen : argsL.length = ps.length)
    (hd : decode c.code pc = .ok (.invokespecial index, 3)) (W : Nat) (hW : (rest.map fun v => v.category).sum ≤ W) (hf : rm.frames + 1 ≤ R.frames) (hl : W + (maxL + 11) + rm.locals ≤ R.locals) (hc : cells + rm.cells ≤ R.cells) (hs : slots + rm.slots ≤ R.slots)
    (k : ∀ (v : Option Value) (T' : State) (L : List Loc), Stand p l e R s m args below meth c T' (locs ++ L) (cells + rm.cells) (slots + rm.slots) → Q v T'.heap L → Go p e below G (T'.setTop (mkF m (pc + 3) Ls (v.toList ++ rest)))) : Go p e below G (T.setTop (mkF m pc Ls st)) := by
  obtain ⟨v, _, ⟨T', L', k', n'⟩, -, X', ⟨L, hQ, h1, h2, h3⟩, stp⟩ := X.specialBack hx hy1 hown (mvT hZ wl) (mvT hZ wi) (mvT hZ wc) hy (backOf (W := W) (P []) hZ wc wz hf hl) (g := mkF m pc Ls st) rfl hsz (Steps.refl _) (a := b) (argsL := argsL) (rest := rest) (lenOf hpd hlen) hst (by show 2 * 0 + _ ≤ _; omega) hd (fun _ _ => ⟨rfl, eT, hc, hs⟩)
  dsimp only at X' hQ h1 h2 h3 stp
  subst h1 h2 h3
  exact Go.tr stp (k v T' L X' hQ)
/-- a call of a static method, by its contract -/
theorem Go.stat (X : Stand p l e R s m args below meth c T locs cells slots) (hx : p.tables.exec = Jvm.exec) (hZ : Z.Warmed39 s.vm) {own : String} {index : Nat} {y : MethodName} (hown : s.vm.findClass own = some m.cls) (wl : (Cond.methodLink own index y).before a0 Z = true)
    (wst : (Cond.static y).before a0 Z = true) (wz : (Cond.initialized y.cls).before a0 Z = true) {bytes : ByteArray} {maxL : Nat} {ret : Option FieldType} (wc : (Cond.code y bytes maxL ret).before a0 Z = true) (hy : y.cls ≠ "java/lang/invoke/MethodHandle" ∧ y.cls ≠ "java/lang/invoke/VarHandle")
    {rm : Room} {Q : Option Value → Heap → List Loc → Prop} {argsL rest : List Value} (P : Pays l y bytes maxL ret rm Z argsL.toArray h Q) (eT : T.heap = h) {pc : Nat} {Ls : Array Slot} {st : List Value} (hst : st = argsL.reverse ++ rest) (hsz : Ls.size = c.maxLocals) {ps : List FieldType} {r : Option FieldType} (hpd : parseMethodDescriptor y.desc = some ⟨ps, r⟩) (hlen : argsL.length = ps.length)
    (hd : decode c.code pc = .ok (.invokestatic index, 3)) (W : Nat) (hW : (rest.map fun v => v.category).sum ≤ W) (hf : rm.frames + 1 ≤ R.frames) (hl : W + (maxL + 11) + rm.locals ≤ R.locals) (hc : cells + rm.cells ≤ R.cells) (hs : slots + rm.slots ≤ R.slots)
    (k : ∀ (v : Option Value) (T' : State) (L : List Loc), Stand p l e R s m args below meth c T' (locs ++ L) (cells + rm.cells) (slots + rm.slots) → Q v T'.heap L → Go p e below G (T'.setTop (mkF m (pc + 3) Ls (v.toList ++ rest)))) : Go p e below G (T.setTop (mkF m pc Ls st)) := by
  obtain ⟨mk, hnamed⟩ := Cond.named_of_code (mvT (args := args) hZ wc)
  obtain ⟨methM, cM, hmeth, hcode, -, -, -, -, -, hsig⟩ := Cond.code_spec hnamed (mvT (args := args) hZ wc)
  obtain ⟨v, _, ⟨T', L', k', n'⟩, -, X', ⟨L, hQ, h1, h2, h3⟩, stp⟩ := X.staticBack hx hown (mvT hZ wl) (mvT hZ wst) (mvT hZ wz) hnamed hmeth hsig hy (backOf (W := W) (P []) hZ wc wz hf hl) (g := mkF m pc Ls st) rfl hsz (Steps.refl _) (argsL := argsL) (rest := rest) (lenOf hpd hlen) hst (by show 2 * 0 + _ ≤ _; omega) hd (fun _ _ => ⟨rfl, eT, hc, hs⟩)
  dsimp only at X' hQ h1 h2 h3 stp
  subst h1 h2 h3
  exact Go.tr stp (k v T' L X' hQ)
theorem own_alen (X : Stand p l e R s m args below meth c T locs cells slots) (hx : p.tables.exec = Jvm.exec) (hZ : Z.Warmed39 s.vm) (eT : T.heap = h) {a : Addr} {cl : Cell} {ty : FieldType} (A : Arr Z h a cl ty) {z : Int32} (q : cl.slots.size.toInt32 = z) {pc : Nat} {Ls : Array Slot} {st rest : List Value} (hst : st = .ref a :: rest)
    (hd : decode c.code pc = .ok (.arraylength, 1)) (target : State) (k : Steps p.tables e below (T.setTop (mkF m (pc + 1) Ls (.int z :: rest))) target) : Steps p.tables e below (T.setTop (mkF m pc Ls st)) target :=
  X.arraylength hx (by rw [eT]; exact A.1) (State.isArrayOf_alike hZ.alike A.2.1) (g := mkF m pc Ls st) rfl hst hd target (by rw [q]; exact k)
def ObjAt (h : Heap) (x : Addr) : Prop := ∃ cell : Cell, h[x]? = some cell ∧ cell.vm.isStatics = false
theorem own_obj_exa {x : Addr} {C : String} (F : Exa Z h x C) : ObjAt h x := by
  obtain ⟨c1, _, h1, _, _, h4, _⟩ := F
  exact ⟨c1, h1, h4⟩
theorem own_obj_arv {x : Addr} {k : ClassId} {ty : FieldType} {n : Int32} {vs : List Value} {d : Value} (F : Arv Z h x k ty n vs d) : ObjAt h x := by
  obtain ⟨c1, A, _⟩ := F
  exact ⟨c1, A.1, A.plain⟩
theorem own_sta_keep {h' : Heap} {C n d : String} {v : Value} {ws : List Addr} (F : Sta Z h C n d v) (K : Keep h h' ws) (hws : ∀ x ∈ ws, ObjAt h x) : Sta Z h' C n d v := by
  obtain ⟨cf, i, k, f, st, cell, h1, h2, h3, h4, h5, h6, h7⟩ := F
  refine ⟨cf, i, k, f, st, cell, h1, h2, h3, h4, K.2.1 _ _ h5 fun q => ?_, h6, h7⟩
  obtain ⟨c1, g1, g2⟩ := hws _ q
  cases h5.symm.trans g1
  rw [h6] at g2
  cases g2
theorem own_entry {n : Nat} {Ls : Array Slot} (h : Jvm.Sym.laidSlots args.toList ++ List.replicate (n - (Jvm.Sym.laidSlots args.toList).length) .unset = Ls.toList) : entryFrame m args n = mkF m 0 Ls [] := by
  have q : argsToLocals args n = Ls := Array.toList_inj.mp (by rw [Jvm.Sym.argsToLocals_toList]; exact h)
  unfold entryFrame
  rw [q]
theorem own_eqI {first : State} {o : Option Outcome} {idx : List Nat} {a b : Term} {x y : Int32} (ha : a.eval args first o idx s = some (.int x)) (hb : b.eval args first o idx s = some (.int y)) : (Jvm.Cond.eq a b).value args first o s idx = some (decide (x = y)) := by simp [Cond.value, ha, hb]
theorem own_nar_ref {t : FieldType} {v : Value} (hv : v.isRef = true) : narrow t v = v := by
  rcases ref_cases hv with rfl | ⟨a, rfl⟩ <;> cases t <;> rfl
theorem own_fit_ref {t : FieldType} {v : Value} (hv : v.isRef = true) (ht : t.isReference = true := by rfl) : fits t v = true := by
  rcases ref_cases hv with rfl | ⟨a, rfl⟩ <;> cases t <;> first | rfl | cases ht
end OwnGo
theorem dK5_1_0 : decode jdk_52_method_21_code 0 = .ok (.iconst 0, 1) := by decide +kernel
theorem dK5_1_1 : decode jdk_52_method_21_code 1 = .ok (.istore 5, 2) := by decide +kernel
theorem dK5_1_3 : decode jdk_52_method_21_code 3 = .ok (.iload 5, 2) := by decide +kernel
theorem dK5_1_5 : decode jdk_52_method_21_code 5 = .ok (.iload 4, 2) := by decide +kernel
theorem dK5_1_7 : decode jdk_52_method_21_code 7 = .ok (.if_icmp .ge 37, 3) := by decide +kernel
theorem dK5_1_10 : decode jdk_52_method_21_code 10 = .ok (.aload_n 0, 1) := by decide +kernel
theorem dK5_1_11 : decode jdk_52_method_21_code 11 = .ok (.iload_n 1, 1) := by decide +kernel
theorem dK5_1_12 : decode jdk_52_method_21_code 12 = .ok (.caload, 1) := by decide +kernel
theorem dK5_1_13 : decode jdk_52_method_21_code 13 = .ok (.istore 6, 2) := by decide +kernel
theorem dK5_1_15 : decode jdk_52_method_21_code 15 = .ok (.iload 6, 2) := by decide +kernel
theorem dK5_1_17 : decode jdk_52_method_21_code 17 = .ok (.sipush 255, 3) := by decide +kernel
theorem dK5_1_20 : decode jdk_52_method_21_code 20 = .ok (.if_icmp .le 6, 3) := by decide +kernel
theorem dK5_1_26 : decode jdk_52_method_21_code 26 = .ok (.aload_n 2, 1) := by decide +kernel
theorem dK5_1_27 : decode jdk_52_method_21_code 27 = .ok (.iload_n 3, 1) := by decide +kernel
theorem dK5_1_28 : decode jdk_52_method_21_code 28 = .ok (.iload 6, 2) := by decide +kernel
theorem dK5_1_30 : decode jdk_52_method_21_code 30 = .ok (.i2b, 1) := by decide +kernel
theorem dK5_1_31 : decode jdk_52_method_21_code 31 = .ok (.bastore, 1) := by decide +kernel
theorem dK5_1_32 : decode jdk_52_method_21_code 32 = .ok (.iinc 1 1, 3) := by decide +kernel
theorem dK5_1_35 : decode jdk_52_method_21_code 35 = .ok (.iinc 3 1, 3) := by decide +kernel
theorem dK5_1_38 : decode jdk_52_method_21_code 38 = .ok (.iinc 5 1, 3) := by decide +kernel
theorem dK5_1_41 : decode jdk_52_method_21_code 41 = .ok (.goto (-38), 3) := by decide +kernel
theorem dK5_1_44 : decode jdk_52_method_21_code 44 = .ok (.iload 4, 2) := by decide +kernel
theorem dK5_1_46 : decode jdk_52_method_21_code 46 = .ok (.ireturn, 1) := by decide +kernel
theorem pn_java_lang_StringUTF16 : plainName "java/lang/StringUTF16" = true := by first | (simp [plainName, overriddenIn]; done) | decide +kernel
theorem ef_rmK5_1 (m : MethodId) (ca : Addr) (d : Addr) : entryFrame m #[(.ref ca), (.int (0 : Int32)), (.ref d), (.int (0 : Int32)), (.int (1 : Int32))] 7 = mkF m 0 #[.val (.ref ca), .val (.int (0 : Int32)), .val (.ref d), .val (.int (0 : Int32)), .val (.int (1 : Int32)), .unset, .unset] [] := by first | exact own_entry rfl | (simp [entryFrame, mkF, argsToLocals, Value.category]; done) | rfl
set_option maxRecDepth 65536 in
set_option maxHeartbeats 40000000 in
theorem rmK5_1 (l : Launch) (Z : State) (a0 : Array Value) (hw : ∀ d ∈ tables_1, d.before a0 Z = true) (ca d : Addr) (kc kd : ClassId) (x0 : Int32) (h0 : Heap) (n0 : Nat) (Z0 : n0 ≤ h0.size) (V_c : Arv Z h0 ca kc .char (1 : Int32) [(.int x0)] (.int (0 : Int32))) (V_d : Arv Z h0 d kd .byte (1 : Int32) [(.int (0 : Int32))] (.int (0 : Int32))) (hcd : ca ≠ d) (hd : n0 ≤ d) (hx0 : ¬ (255 : Int32) < x0) :
    Pays l (⟨"java/lang/StringUTF16", "compress", "([CI[BII)I"⟩ : MethodName) jdk_52_method_21_code 7 (some .int) ({ frames := 0, cells := 0, slots := 0, locals := 0 } : Room) Z #[(.ref ca), (.int (0 : Int32)), (.ref d), (.int (0 : Int32)), (.int (1 : Int32))] h0 (fun v h L => v = some (.int (1 : Int32)) ∧ Fr n0 L ∧ Keep h0 h [d] ∧ Arv Z h d kd .byte (1 : Int32) [(.int (nar .byte (x0).toInt8.toInt32))] (.int (0 : Int32))) := by
  refine Pays.of (plainFor_of_name pn_java_lang_StringUTF16) ?_
  intro pP eE sS m below methM cC T hx hby hml hret hlk hZ hown hnm eT X
  replace hown : sS.vm.findClass "java/lang/StringUTF16" = some m.cls := hown
  have N0 := Fr.nil n0
  have K0 := Keep.refl h0 [d]
  refine Go.cast (ef_rmK5_1 m ca d) ?_
  refine Go.st (S' := T.setTop (mkF m 1 #[.val (.ref ca), .val (.int (0 : Int32)), .val (.ref d), .val (.int (0 : Int32)), .val (.int (1 : Int32)), .unset, .unset] [(.int (0 : Int32))])) (fun t kt => XS.iconst X.here hx rfl (hb hby dK5_1_0) kt) ?_
  refine Go.st (S' := T.setTop (mkF m 3 #[.val (.ref ca), .val (.int (0 : Int32)), .val (.ref d), .val (.int (0 : Int32)), .val (.int (1 : Int32)), .val (.int (0 : Int32)), .unset] [])) (fun t kt => XS.istore X.here hx rfl (hb hby dK5_1_1) rfl rfl kt) ?_
  refine Go.st (S' := T.setTop (mkF m 5 #[.val (.ref ca), .val (.int (0 : Int32)), .val (.ref d), .val (.int (0 : Int32)), .val (.int (1 : Int32)), .val (.int (0 : Int32)), .unset] [(.int (0 : Int32))])) (fun t kt => XS.iload X.here hx rfl (hb hby dK5_1_3) rfl kt) ?_
  refine Go.st (S' := T.setTop (mkF m 7 #[.val (.ref ca), .val (.int (0 : Int32)), .val (.ref d), .val (.int (0 : Int32)), .val (.int (1 : Int32)), .val (.int (0 : Int32)), .unset] [(.int (1 : Int32)), (.int (0 : Int32))])) (fun t kt => XS.iload X.here hx rfl (hb hby dK5_1_5) rfl kt) ?_
  refine Go.st (S' := T.setTop (mkF m 10 #[.val (.ref ca), .val (.int (0 : Int32)), .val (.ref d), .val (.int (0 : Int32)), .val (.int (1 : Int32)), .val (.int (0 : Int32)), .unset] [])) (fun t kt => XS.icmpNo X.here hx rfl (hb hby dK5_1_7) rfl (XT.ii_ge_f (by decide)) kt) ?_
  refine Go.st (S' := T.setTop (mkF m 11 #[.val (.ref ca), .val (.int (0 : Int32)), .val (.ref d), .val (.int (0 : Int32)), .val (.int (1 : Int32)), .val (.int (0 : Int32)), .unset] [(.ref ca)])) (fun t kt => XS.aloadN X.here hx rfl (hb hby dK5_1_10) rfl rfl kt) ?_
  refine Go.st (S' := T.setTop (mkF m 12 #[.val (.ref ca), .val (.int (0 : Int32)), .val (.ref d), .val (.int (0 : Int32)), .val (.int (1 : Int32)), .val (.int (0 : Int32)), .unset] [(.int (0 : Int32)), (.ref ca)])) (fun t kt => XS.iloadN X.here hx rfl (hb hby dK5_1_11) rfl kt) ?_
  obtain ⟨cl1, Ar1, q1, S1, M1, H1, G1⟩ := id V_c
  refine Go.st (S' := T.setTop (mkF m 13 #[.val (.ref ca), .val (.int (0 : Int32)), .val (.ref d), .val (.int (0 : Int32)), .val (.int (1 : Int32)), .val (.int (0 : Int32)), .unset] [(.int x0)])) (fun t kt => X.caload hx (j := (0 : Int32)) (v := (.int x0)) (by rw [eT]; exact Ar1.1) (State.isArrayOf_alike hZ.alike Ar1.2.1) Ar1.2.2 (inb_of S1 ⟨by decide, by decide⟩) (Has.at H1 (inb_of S1 ⟨by decide, by decide⟩) rfl) (g := (mkF m 12 #[.val (.ref ca), .val (.int (0 : Int32)), .val (.ref d), .val (.int (0 : Int32)), .val (.int (1 : Int32)), .val (.int (0 : Int32)), .unset] [(.int (0 : Int32)), (.ref ca)])) rfl rfl (hb hby dK5_1_12) t kt) ?_
  refine Go.st (S' := T.setTop (mkF m 15 #[.val (.ref ca), .val (.int (0 : Int32)), .val (.ref d), .val (.int (0 : Int32)), .val (.int (1 : Int32)), .val (.int (0 : Int32)), .val (.int x0)] [])) (fun t kt => XS.istore X.here hx rfl (hb hby dK5_1_13) rfl rfl kt) ?_
  refine Go.st (S' := T.setTop (mkF m 17 #[.val (.ref ca), .val (.int (0 : Int32)), .val (.ref d), .val (.int (0 : Int32)), .val (.int (1 : Int32)), .val (.int (0 : Int32)), .val (.int x0)] [(.int x0)])) (fun t kt => XS.iload X.here hx rfl (hb hby dK5_1_15) rfl kt) ?_
  refine Go.st (S' := T.setTop (mkF m 20 #[.val (.ref ca), .val (.int (0 : Int32)), .val (.ref d), .val (.int (0 : Int32)), .val (.int (1 : Int32)), .val (.int (0 : Int32)), .val (.int x0)] [(.int (255 : Int32)), (.int x0)])) (fun t kt => XT.sipushV X.here hx rfl (255 : Int32) (hb hby dK5_1_17) (by decide) kt) ?_
  refine Go.st (S' := T.setTop (mkF m 26 #[.val (.ref ca), .val (.int (0 : Int32)), .val (.ref d), .val (.int (0 : Int32)), .val (.int (1 : Int32)), .val (.int (0 : Int32)), .val (.int x0)] [])) (fun t kt => XS.icmpYes X.here hx rfl (pc0 := 20) (pc' := 26) rfl (hb hby dK5_1_20) rfl (XT.ii_le_t hx0) (by decide) (by decide) kt) ?_
  refine Go.st (S' := T.setTop (mkF m 27 #[.val (.ref ca), .val (.int (0 : Int32)), .val (.ref d), .val (.int (0 : Int32)), .val (.int (1 : Int32)), .val (.int (0 : Int32)), .val (.int x0)] [(.ref d)])) (fun t kt => XS.aloadN X.here hx rfl (hb hby dK5_1_26) rfl rfl kt) ?_
  refine Go.st (S' := T.setTop (mkF m 28 #[.val (.ref ca), .val (.int (0 : Int32)), .val (.ref d), .val (.int (0 : Int32)), .val (.int (1 : Int32)), .val (.int (0 : Int32)), .val (.int x0)] [(.int (0 : Int32)), (.ref d)])) (fun t kt => XS.iloadN X.here hx rfl (hb hby dK5_1_27) rfl kt) ?_
  refine Go.st (S' := T.setTop (mkF m 30 #[.val (.ref ca), .val (.int (0 : Int32)), .val (.ref d), .val (.int (0 : Int32)), .val (.int (1 : Int32)), .val (.int (0 : Int32)), .val (.int x0)] [(.int x0), (.int (0 : Int32)), (.ref d)])) (fun t kt => XS.iload X.here hx rfl (hb hby dK5_1_28) rfl kt) ?_
  refine Go.st (S' := T.setTop (mkF m 31 #[.val (.ref ca), .val (.int (0 : Int32)), .val (.ref d), .val (.int (0 : Int32)), .val (.int (1 : Int32)), .val (.int (0 : Int32)), .val (.int x0)] [(.int (x0).toInt8.toInt32), (.int (0 : Int32)), (.ref d)])) (fun t kt => XT.i2b X.here hx rfl (hb hby dK5_1_30) rfl kt) ?_
  obtain ⟨cl2, Ar2, q2, S2, M2, H2, G2⟩ := id V_d
  obtain ⟨T2, h2, X2, e2, W2, st2⟩ := stB X hx hZ eT Ar2 (j := (0 : Int32)) (inb_of S2 ⟨by decide, by decide⟩)  (g := (mkF m 31 #[.val (.ref ca), .val (.int (0 : Int32)), .val (.ref d), .val (.int (0 : Int32)), .val (.int (1 : Int32)), .val (.int (0 : Int32)), .val (.int x0)] [(.int (x0).toInt8.toInt32), (.int (0 : Int32)), (.ref d)])) rfl rfl (hb hby dK5_1_31)
  have V2 : Arv Z h2 d kd .byte (1 : Int32) [(.int (nar .byte (x0).toInt8.toInt32))] (.int (0 : Int32)) := Arv.set Ar2 q2 S2 M2 H2 G2 (fits_nar_byte _) W2 0 rfl (Nat.le_of_ble_eq_true rfl)
  have N2 := Fr.snoc X2 N0 hd
  have Z2 : n0 ≤ h2.size := by rw [Wr.size W2]; exact Z0
  have K2 := Keep.wr K0 W2 (Or.inl (List.mem_of_getElem? (i := 0) rfl))
  refine Go.st (S' := T2.setTop (mkF m 32 #[.val (.ref ca), .val (.int (0 : Int32)), .val (.ref d), .val (.int (0 : Int32)), .val (.int (1 : Int32)), .val (.int (0 : Int32)), .val (.int x0)] [])) (fun t kt => st2 t kt) ?_
  refine Go.st (S' := T2.setTop (mkF m 35 #[.val (.ref ca), .val (.int (1 : Int32)), .val (.ref d), .val (.int (0 : Int32)), .val (.int (1 : Int32)), .val (.int (0 : Int32)), .val (.int x0)] [])) (fun t kt => XT.iincV X2.here hx rfl (1 : Int32) (hb hby dK5_1_32) (by decide) rfl rfl kt) ?_
  refine Go.st (S' := T2.setTop (mkF m 38 #[.val (.ref ca), .val (.int (1 : Int32)), .val (.ref d), .val (.int (1 : Int32)), .val (.int (1 : Int32)), .val (.int (0 : Int32)), .val (.int x0)] [])) (fun t kt => XT.iincV X2.here hx rfl (1 : Int32) (hb hby dK5_1_35) (by decide) rfl rfl kt) ?_
  refine Go.st (S' := T2.setTop (mkF m 41 #[.val (.ref ca), .val (.int (1 : Int32)), .val (.ref d), .val (.int (1 : Int32)), .val (.int (1 : Int32)), .val (.int (1 : Int32)), .val (.int x0)] [])) (fun t kt => XT.iincV X2.here hx rfl (1 : Int32) (hb hby dK5_1_38) (by decide) rfl rfl kt) ?_
  refine Go.st (S' := T2.setTop (mkF m 3 #[.val (.ref ca), .val (.int (1 : Int32)), .val (.ref d), .val (.int (1 : Int32)), .val (.int (1 : Int32)), .val (.int (1 : Int32)), .val (.int x0)] [])) (fun t kt => XS.goto X2.here hx rfl (pc0 := 41) (pc' := 3) rfl (hb hby dK5_1_41) (by decide) (by decide) kt) ?_
  refine Go.st (S' := T2.setTop (mkF m 5 #[.val (.ref ca), .val (.int (1 : Int32)), .val (.ref d), .val (.int (1 : Int32)), .val (.int (1 : Int32)), .val (.int (1 : Int32)), .val (.int x0)] [(.int (1 : Int32))])) (fun t kt => XS.iload X2.here hx rfl (hb hby dK5_1_3) rfl kt) ?_
  refine Go.st (S' := T2.setTop (mkF m 7 #[.val (.ref ca), .val (.int (1 : Int32)), .val (.ref d), .val (.int (1 : Int32)), .val (.int (1 : Int32)), .val (.int (1 : Int32)), .val (.int x0)] [(.int (1 : Int32)), (.int (1 : Int32))])) (fun t kt => XS.iload X2.here hx rfl (hb hby dK5_1_5) rfl kt) ?_
  refine Go.st (S' := T2.setTop (mkF m 44 #[.val (.ref ca), .val (.int (1 : Int32)), .val (.ref d), .val (.int (1 : Int32)), .val (.int (1 : Int32)), .val (.int (1 : Int32)), .val (.int x0)] [])) (fun t kt => XS.icmpYes X2.here hx rfl (pc0 := 7) (pc' := 44) rfl (hb hby dK5_1_7) rfl (XT.ii_ge_t (by decide)) (by decide) (by decide) kt) ?_
  refine Go.st (S' := T2.setTop (mkF m 46 #[.val (.ref ca), .val (.int (1 : Int32)), .val (.ref d), .val (.int (1 : Int32)), .val (.int (1 : Int32)), .val (.int (1 : Int32)), .val (.int x0)] [(.int (1 : Int32))])) (fun t kt => XS.iload X2.here hx rfl (hb hby dK5_1_44) rfl kt) ?_
  exact ret_i X2 hx hlk hret (hb hby dK5_1_46) (by decide) (by decide) (by rw [e2]; exact ⟨rfl, N2, K2, V2⟩)
theorem dK3_1_0 : decode jdk_52_method_16_code 0 = .ok (.iload_n 2, 1) := by decide +kernel
theorem dK3_1_1 : decode jdk_52_method_16_code 1 = .ok (.newarray .byte, 2) := by decide +kernel
theorem dK3_1_3 : decode jdk_52_method_16_code 3 = .ok (.astore_n 3, 1) := by decide +kernel
theorem dK3_1_4 : decode jdk_52_method_16_code 4 = .ok (.aload_n 0, 1) := by decide +kernel
theorem dK3_1_5 : decode jdk_52_method_16_code 5 = .ok (.iload_n 1, 1) := by decide +kernel
theorem dK3_1_6 : decode jdk_52_method_16_code 6 = .ok (.aload_n 3, 1) := by decide +kernel
theorem dK3_1_7 : decode jdk_52_method_16_code 7 = .ok (.iconst 0, 1) := by decide +kernel
theorem dK3_1_8 : decode jdk_52_method_16_code 8 = .ok (.iload_n 2, 1) := by decide +kernel
theorem dK3_1_9 : decode jdk_52_method_16_code 9 = .ok (.invokestatic 115, 3) := by decide +kernel
theorem dK3_1_12 : decode jdk_52_method_16_code 12 = .ok (.istore 4, 2) := by decide +kernel
theorem dK3_1_14 : decode jdk_52_method_16_code 14 = .ok (.iload 4, 2) := by decide +kernel
theorem dK3_1_16 : decode jdk_52_method_16_code 16 = .ok (.iload_n 2, 1) := by decide +kernel
theorem dK3_1_17 : decode jdk_52_method_16_code 17 = .ok (.if_icmp .eq 40, 3) := by decide +kernel
theorem dK3_1_57 : decode jdk_52_method_16_code 57 = .ok (.aload_n 3, 1) := by decide +kernel
theorem dK3_1_58 : decode jdk_52_method_16_code 58 = .ok (.areturn, 1) := by decide +kernel
theorem pd___CI_BII_I : parseMethodDescriptor "([CI[BII)I" = some ⟨[(.array .char), .int, (.array .byte), .int, .int], some .int⟩ := by decide +kernel
theorem ef_rmK3_1 (m : MethodId) (ca : Addr) : entryFrame m #[(.ref ca), (.int (0 : Int32)), (.int (1 : Int32))] 6 = mkF m 0 #[.val (.ref ca), .val (.int (0 : Int32)), .val (.int (1 : Int32)), .unset, .unset, .unset] [] := by first | exact own_entry rfl | (simp [entryFrame, mkF, argsToLocals, Value.category]; done) | rfl
set_option maxRecDepth 65536 in
set_option maxHeartbeats 40000000 in
theorem rmK3_1 (l : Launch) (Z : State) (a0 : Array Value) (hw : ∀ d ∈ tables_1, d.before a0 Z = true) (ca : Addr) (kc : ClassId) (x0 : Int32) (h0 : Heap) (n0 : Nat) (Z0 : n0 ≤ h0.size) (V_c : Arv Z h0 ca kc .char (1 : Int32) [(.int x0)] (.int (0 : Int32))) (hx0 : ¬ (255 : Int32) < x0) :
    Pays l (⟨"java/lang/StringUTF16", "compress", "([CII)[B"⟩ : MethodName) jdk_52_method_16_code 6 (some (.array .byte)) ({ frames := 1, cells := 1, slots := 1, locals := 18 } : Room) Z #[(.ref ca), (.int (0 : Int32)), (.int (1 : Int32))] h0 (fun v h L => ∃ d k, v = some (.ref d) ∧ Fr n0 L ∧ Keep h0 h [] ∧ h0.size ≤ d ∧ n0 ≤ d ∧ Arv Z h d k .byte (1 : Int32) [(.int (nar .byte (x0).toInt8.toInt32))] (.int (0 : Int32))) := by
  refine Pays.of (plainFor_of_name pn_java_lang_StringUTF16) ?_
  intro pP eE sS m below methM cC T hx hby hml hret hlk hZ hown hnm eT X
  replace hown : sS.vm.findClass "java/lang/StringUTF16" = some m.cls := hown
  have N0 := Fr.nil n0
  have K0 := Keep.refl h0 ([] : List Addr)
  refine Go.cast (ef_rmK3_1 m ca) ?_
  refine Go.st (S' := T.setTop (mkF m 1 #[.val (.ref ca), .val (.int (0 : Int32)), .val (.int (1 : Int32)), .unset, .unset, .unset] [(.int (1 : Int32))])) (fun t kt => XS.iloadN X.here hx rfl (hb hby dK3_1_0) rfl kt) ?_
  obtain ⟨T1, h1, k1, X1, e1, E1, A1, st1⟩ := newP X hx hZ (hw _ (List.mem_of_getElem? (i := 20) rfl)) eT (g := (mkF m 1 #[.val (.ref ca), .val (.int (0 : Int32)), .val (.int (1 : Int32)), .unset, .unset, .unset] [(.int (1 : Int32))])) rfl (hb hby dK3_1_1) rfl (by decide) (cap := 1) (by decide) (by decide) (by decide) (by decide)
  obtain ⟨a1, g1⟩ : ∃ z, z = h0.size := ⟨_, rfl⟩
  rw [← g1] at A1 st1
  have V1 : Arv Z h1 a1 k1 .byte (1 : Int32) [(.int (0 : Int32))] (.int (0 : Int32)) := Arv.pad (Arv.new A1 (by decide)) (pad_rep [] _ 1)
  have Z1 : n0 ≤ h1.size := Nat.le_trans Z0 E1.1
  have K1 := Keep.ext K0 E1
  have sz_a1 : h0.size ≤ a1 := Nat.le_trans K0.1 (Nat.le_of_eq g1.symm)
  refine Go.st (S' := T1.setTop (mkF m 3 #[.val (.ref ca), .val (.int (0 : Int32)), .val (.int (1 : Int32)), .unset, .unset, .unset] [(.ref a1)])) (fun t kt => st1 t kt) ?_
  refine Go.st (S' := T1.setTop (mkF m 4 #[.val (.ref ca), .val (.int (0 : Int32)), .val (.int (1 : Int32)), .val (.ref a1), .unset, .unset] [])) (fun t kt => XS.astoreN X1.here hx rfl (hb hby dK3_1_3) rfl rfl rfl kt) ?_
  refine Go.st (S' := T1.setTop (mkF m 5 #[.val (.ref ca), .val (.int (0 : Int32)), .val (.int (1 : Int32)), .val (.ref a1), .unset, .unset] [(.ref ca)])) (fun t kt => XS.aloadN X1.here hx rfl (hb hby dK3_1_4) rfl rfl kt) ?_
  refine Go.st (S' := T1.setTop (mkF m 6 #[.val (.ref ca), .val (.int (0 : Int32)), .val (.int (1 : Int32)), .val (.ref a1), .unset, .unset] [(.int (0 : Int32)), (.ref ca)])) (fun t kt => XS.iloadN X1.here hx rfl (hb hby dK3_1_5) rfl kt) ?_
  refine Go.st (S' := T1.setTop (mkF m 7 #[.val (.ref ca), .val (.int (0 : Int32)), .val (.int (1 : Int32)), .val (.ref a1), .unset, .unset] [(.ref a1), (.int (0 : Int32)), (.ref ca)])) (fun t kt => XS.aloadN X1.here hx rfl (hb hby dK3_1_6) rfl rfl kt) ?_
  refine Go.st (S' := T1.setTop (mkF m 8 #[.val (.ref ca), .val (.int (0 : Int32)), .val (.int (1 : Int32)), .val (.ref a1), .unset, .unset] [(.int (0 : Int32)), (.ref a1), (.int (0 : Int32)), (.ref ca)])) (fun t kt => XS.iconst X1.here hx rfl (hb hby dK3_1_7) kt) ?_
  refine Go.st (S' := T1.setTop (mkF m 9 #[.val (.ref ca), .val (.int (0 : Int32)), .val (.int (1 : Int32)), .val (.ref a1), .unset, .unset] [(.int (1 : Int32)), (.int (0 : Int32)), (.ref a1), (.int (0 : Int32)), (.ref ca)])) (fun t kt => XS.iloadN X1.here hx rfl (hb hby dK3_1_8) rfl kt) ?_
  have f2 := (V_c.ext E1)
  refine Go.stat X1 hx hZ hown (hw _ (List.mem_of_getElem? (i := 21) rfl)) (hw _ (List.mem_of_getElem? (i := 22) rfl)) (hw _ (List.mem_of_getElem? (i := 18) rfl)) (hw _ (List.mem_of_getElem? (i := 23) rfl)) (by decide) (argsL := [(.ref ca), (.int (0 : Int32)), (.ref a1), (.int (0 : Int32)), (.int (1 : Int32))]) (rest := []) (rmK5_1 l Z a0 hw ca a1 kc k1 x0 h1 n0 Z1 f2 V1 (Nat.ne_of_lt (by rw [g1]; exact V_c.lt)) (Nat.le_trans Z0 (Nat.le_of_eq g1.symm)) hx0) e1 rfl (by rw [hml]; rfl) pd___CI_BII_I rfl (hb hby dK3_1_9) 0 (Nat.le_refl _) (by decide) (by decide) (by decide) (by decide) ?_
  intro v3 T3 L3 X3 hQ3
  obtain ⟨hv3, N3', K3', f3_0⟩ := hQ3
  subst hv3
  have N3 := Fr.app N0 N3'
  have Z3 : n0 ≤ T3.heap.size := Nat.le_trans Z1 K3'.1
  have eh3 : T3.heap = T3.heap := rfl
  have K3 := Keep.trans K1 K3' (allS (Or.inr sz_a1) all0)
  show Go pP eE below _ (T3.setTop (mkF m 12 #[.val (.ref ca), .val (.int (0 : Int32)), .val (.int (1 : Int32)), .val (.ref a1), .unset, .unset] [(.int (1 : Int32))]))
  refine Go.st (S' := T3.setTop (mkF m 14 #[.val (.ref ca), .val (.int (0 : Int32)), .val (.int (1 : Int32)), .val (.ref a1), .val (.int (1 : Int32)), .unset] [])) (fun t kt => XS.istore X3.here hx rfl (hb hby dK3_1_12) rfl rfl kt) ?_
  refine Go.st (S' := T3.setTop (mkF m 16 #[.val (.ref ca), .val (.int (0 : Int32)), .val (.int (1 : Int32)), .val (.ref a1), .val (.int (1 : Int32)), .unset] [(.int (1 : Int32))])) (fun t kt => XS.iload X3.here hx rfl (hb hby dK3_1_14) rfl kt) ?_
  refine Go.st (S' := T3.setTop (mkF m 17 #[.val (.ref ca), .val (.int (0 : Int32)), .val (.int (1 : Int32)), .val (.ref a1), .val (.int (1 : Int32)), .unset] [(.int (1 : Int32)), (.int (1 : Int32))])) (fun t kt => XS.iloadN X3.here hx rfl (hb hby dK3_1_16) rfl kt) ?_
  refine Go.st (S' := T3.setTop (mkF m 57 #[.val (.ref ca), .val (.int (0 : Int32)), .val (.int (1 : Int32)), .val (.ref a1), .val (.int (1 : Int32)), .unset] [])) (fun t kt => XS.icmpYes X3.here hx rfl (pc0 := 17) (pc' := 57) rfl (hb hby dK3_1_17) rfl (XT.ii_eq_t (by decide)) (by decide) (by decide) kt) ?_
  refine Go.st (S' := T3.setTop (mkF m 58 #[.val (.ref ca), .val (.int (0 : Int32)), .val (.int (1 : Int32)), .val (.ref a1), .val (.int (1 : Int32)), .unset] [(.ref a1)])) (fun t kt => XS.aloadN X3.here hx rfl (hb hby dK3_1_57) rfl rfl kt) ?_
  exact ret_a X3 hx hlk hret rfl rfl (hb hby dK3_1_58) (by decide) (by decide) (⟨_, _, rfl, N3, K3, sz_a1, (Nat.le_trans Z0 (Nat.le_of_eq g1.symm)), f3_0⟩)
theorem dKF_1_0 : decode jdk_52_method_15_code 0 = .ok (.iload_n 1, 1) := by decide +kernel
theorem dKF_1_1 : decode jdk_52_method_15_code 1 = .ok (.aload_n 0, 1) := by decide +kernel
theorem dKF_1_2 : decode jdk_52_method_15_code 2 = .ok (.arraylength, 1) := by decide +kernel
theorem dKF_1_3 : decode jdk_52_method_15_code 3 = .ok (.isub, 1) := by decide +kernel
theorem dKF_1_4 : decode jdk_52_method_15_code 4 = .ok (.bipush 31, 2) := by decide +kernel
theorem dKF_1_6 : decode jdk_52_method_15_code 6 = .ok (.iushr, 1) := by decide +kernel
theorem dKF_1_7 : decode jdk_52_method_15_code 7 = .ok (.i2b, 1) := by decide +kernel
theorem dKF_1_8 : decode jdk_52_method_15_code 8 = .ok (.ireturn, 1) := by decide +kernel
theorem ef_rmKF_1 (m : MethodId) (d : Addr) : entryFrame m #[(.ref d), (.int (1 : Int32))] 2 = mkF m 0 #[.val (.ref d), .val (.int (1 : Int32))] [] := by first | exact own_entry rfl | (simp [entryFrame, mkF, argsToLocals, Value.category]; done) | rfl
set_option maxRecDepth 65536 in
set_option maxHeartbeats 40000000 in
theorem rmKF_1 (l : Launch) (Z : State) (a0 : Array Value) (hw : ∀ d ∈ tables_1, d.before a0 Z = true) (d : Addr) (kd : ClassId) (x0 : Int32) (h0 : Heap) (n0 : Nat) (Z0 : n0 ≤ h0.size) (V_d : Arv Z h0 d kd .byte (1 : Int32) [(.int (nar .byte (x0).toInt8.toInt32))] (.int (0 : Int32))) :
    Pays l (⟨"java/lang/StringUTF16", "coderFromArrayLen", "([BI)B"⟩ : MethodName) jdk_52_method_15_code 2 (some .byte) ({ frames := 0, cells := 0, slots := 0, locals := 0 } : Room) Z #[(.ref d), (.int (1 : Int32))] h0 (fun v h L => v = some (.int (0 : Int32)) ∧ Fr n0 L ∧ h = h0) := by
  refine Pays.of (plainFor_of_name pn_java_lang_StringUTF16) ?_
  intro pP eE sS m below methM cC T hx hby hml hret hlk hZ hown hnm eT X
  replace hown : sS.vm.findClass "java/lang/StringUTF16" = some m.cls := hown
  have N0 := Fr.nil n0
  refine Go.cast (ef_rmKF_1 m d) ?_
  refine Go.st (S' := T.setTop (mkF m 1 #[.val (.ref d), .val (.int (1 : Int32))] [(.int (1 : Int32))])) (fun t kt => XS.iloadN X.here hx rfl (hb hby dKF_1_0) rfl kt) ?_
  refine Go.st (S' := T.setTop (mkF m 2 #[.val (.ref d), .val (.int (1 : Int32))] [(.ref d), (.int (1 : Int32))])) (fun t kt => XS.aloadN X.here hx rfl (hb hby dKF_1_1) rfl rfl kt) ?_
  obtain ⟨cl1, Ar1, q1, S1, M1, H1, G1⟩ := id V_d
  refine Go.st (S' := T.setTop (mkF m 3 #[.val (.ref d), .val (.int (1 : Int32))] [(.int (1 : Int32)), (.int (1 : Int32))])) (fun t kt => own_alen X hx hZ eT Ar1 (len_of S1 M1) rfl (hb hby dKF_1_2) t kt) ?_
  refine Go.st (S' := T.setTop (mkF m 4 #[.val (.ref d), .val (.int (1 : Int32))] [(.int (0 : Int32))])) (fun t kt => XS.isub X.here hx rfl (hb hby dKF_1_3) rfl kt) ?_
  refine Go.st (S' := T.setTop (mkF m 6 #[.val (.ref d), .val (.int (1 : Int32))] [(.int (31 : Int32)), (.int (0 : Int32))])) (fun t kt => XT.bipushV X.here hx rfl (31 : Int32) (hb hby dKF_1_4) (by decide) kt) ?_
  refine Go.st (S' := T.setTop (mkF m 7 #[.val (.ref d), .val (.int (1 : Int32))] [(.int (0 : Int32))])) (fun t kt => XT.iushr X.here hx rfl (hb hby dKF_1_6) rfl kt) ?_
  refine Go.st (S' := T.setTop (mkF m 8 #[.val (.ref d), .val (.int (1 : Int32))] [(.int (0 : Int32))])) (fun t kt => XT.i2b X.here hx rfl (hb hby dKF_1_7) rfl kt) ?_
  exact ret_y X hx hlk hret (hb hby dKF_1_8) (by decide) (by decide) (⟨rfl, N0, eT⟩)
theorem dK4_1_0 : decode jdk_42_method_149_code 0 = .ok (.aload_n 0, 1) := by decide +kernel
theorem dK4_1_1 : decode jdk_42_method_149_code 1 = .ok (.invokespecial 1, 3) := by decide +kernel
theorem dK4_1_4 : decode jdk_42_method_149_code 4 = .ok (.iload_n 3, 1) := by decide +kernel
theorem dK4_1_5 : decode jdk_42_method_149_code 5 = .ok (.ifCond .ne 22, 3) := by decide +kernel
theorem dK4_1_27 : decode jdk_42_method_149_code 27 = .ok (.getstatic 38, 3) := by decide +kernel
theorem dK4_1_30 : decode jdk_42_method_149_code 30 = .ok (.ifCond .eq 28, 3) := by decide +kernel
theorem dK4_1_33 : decode jdk_42_method_149_code 33 = .ok (.aload_n 1, 1) := by decide +kernel
theorem dK4_1_34 : decode jdk_42_method_149_code 34 = .ok (.iload_n 2, 1) := by decide +kernel
theorem dK4_1_35 : decode jdk_42_method_149_code 35 = .ok (.iload_n 3, 1) := by decide +kernel
theorem dK4_1_36 : decode jdk_42_method_149_code 36 = .ok (.invokestatic 177, 3) := by decide +kernel
theorem dK4_1_39 : decode jdk_42_method_149_code 39 = .ok (.astore 5, 2) := by decide +kernel
theorem dK4_1_41 : decode jdk_42_method_149_code 41 = .ok (.aload_n 0, 1) := by decide +kernel
theorem dK4_1_42 : decode jdk_42_method_149_code 42 = .ok (.aload 5, 2) := by decide +kernel
theorem dK4_1_44 : decode jdk_42_method_149_code 44 = .ok (.iload_n 3, 1) := by decide +kernel
theorem dK4_1_45 : decode jdk_42_method_149_code 45 = .ok (.invokestatic 47, 3) := by decide +kernel
theorem dK4_1_48 : decode jdk_42_method_149_code 48 = .ok (.putfield 15, 3) := by decide +kernel
theorem dK4_1_51 : decode jdk_42_method_149_code 51 = .ok (.aload_n 0, 1) := by decide +kernel
theorem dK4_1_52 : decode jdk_42_method_149_code 52 = .ok (.aload 5, 2) := by decide +kernel
theorem dK4_1_54 : decode jdk_42_method_149_code 54 = .ok (.putfield 9, 3) := by decide +kernel
theorem dK4_1_57 : decode jdk_42_method_149_code 57 = .ok (.return_, 1) := by decide +kernel
theorem pd___CII__B : parseMethodDescriptor "([CII)[B" = some ⟨[(.array .char), .int, .int], some (.array .byte)⟩ := by decide +kernel
theorem pd___BI_B : parseMethodDescriptor "([BI)B" = some ⟨[(.array .byte), .int], some .byte⟩ := by decide +kernel
theorem pn_java_lang_String : plainName "java/lang/String" = true := by first | (simp [plainName, overriddenIn]; done) | decide +kernel
theorem ef_rmK4_1 (m : MethodId) (a : Addr) (ca : Addr) : entryFrame m #[(.ref a), (.ref ca), (.int (0 : Int32)), (.int (1 : Int32)), .null] 6 = mkF m 0 #[.val (.ref a), .val (.ref ca), .val (.int (0 : Int32)), .val (.int (1 : Int32)), .val .null, .unset] [] := by first | exact own_entry rfl | (simp [entryFrame, mkF, argsToLocals, Value.category]; done) | rfl
set_option maxRecDepth 65536 in
set_option maxHeartbeats 40000000 in
theorem rmK4_1 (l : Launch) (Z : State) (a0 : Array Value) (hw : ∀ d ∈ tables_1, d.before a0 Z = true) (a ca : Addr) (kc : ClassId) (x0 : Int32) (h0 : Heap) (n0 : Nat) (Z0 : n0 ≤ h0.size) (E_a : Exa Z h0 a "java/lang/String") (ha : n0 ≤ a) (hca : ca ≠ a) (F_value : Fld Z h0 a "java/lang/String" "value" "[B" .null) (F_coder : Fld Z h0 a "java/lang/String" "coder" "B" (.int (0 : Int32))) (V_c : Arv Z h0 ca kc .char (1 : Int32) [(.int x0)] (.int (0 : Int32))) (hx0 : ¬ (255 : Int32) < x0) (cs : Int32) (S_cs : Sta Z h0 "java/lang/String" "COMPACT_STRINGS" "Z" (.int cs)) (hcs : ¬ cs = 0) :
    Pays l (⟨"java/lang/String", "<init>", "([CIILjava/lang/Void;)V"⟩ : MethodName) jdk_42_method_149_code 6 none ({ frames := 2, cells := 1, slots := 1, locals := 35 } : Room) Z #[(.ref a), (.ref ca), (.int (0 : Int32)), (.int (1 : Int32)), .null] h0 (fun v h L => ∃ d k, v = none ∧ Fr n0 L ∧ Keep h0 h [a] ∧ h0.size ≤ d ∧ n0 ≤ d ∧ Exa Z h a "java/lang/String" ∧ Fld Z h a "java/lang/String" "value" "[B" (.ref d) ∧ Fld Z h a "java/lang/String" "coder" "B" (.int (0 : Int32)) ∧ Arv Z h d k .byte (1 : Int32) [(.int (nar .byte (x0).toInt8.toInt32))] (.int (0 : Int32))) := by
  refine Pays.of (plainFor_of_name pn_java_lang_String) ?_
  intro pP eE sS m below methM cC T hx hby hml hret hlk hZ hown hnm eT X
  replace hown : sS.vm.findClass "java/lang/String" = some m.cls := hown
  have N0 := Fr.nil n0
  have K0 := Keep.refl h0 [a]
  refine Go.cast (ef_rmK4_1 m a ca) ?_
  refine Go.st (S' := T.setTop (mkF m 1 #[.val (.ref a), .val (.ref ca), .val (.int (0 : Int32)), .val (.int (1 : Int32)), .val .null, .unset] [(.ref a)])) (fun t kt => XS.aloadN X.here hx rfl (hb hby dK4_1_0) rfl rfl kt) ?_
  obtain ⟨T1, X1, e1, st1⟩ := initO X hx hZ hown (hw _ (List.mem_of_getElem? (i := 12) rfl)) (hw _ (List.mem_of_getElem? (i := 13) rfl)) (hw _ (List.mem_of_getElem? (i := 14) rfl)) eT (g := (mkF m 1 #[.val (.ref a), .val (.ref ca), .val (.int (0 : Int32)), .val (.int (1 : Int32)), .val .null, .unset] [(.ref a)])) rfl (by rw [hml]; rfl) rfl (hb hby dK4_1_1) (by decide) (W := 0) (by show 2 * 0 + _ ≤ _; exact Nat.le_of_eq rfl) (by decide)
  refine Go.st (S' := T1.setTop (mkF m 4 #[.val (.ref a), .val (.ref ca), .val (.int (0 : Int32)), .val (.int (1 : Int32)), .val .null, .unset] [])) (fun t kt => st1 t kt) ?_
  refine Go.st (S' := T1.setTop (mkF m 5 #[.val (.ref a), .val (.ref ca), .val (.int (0 : Int32)), .val (.int (1 : Int32)), .val .null, .unset] [(.int (1 : Int32))])) (fun t kt => XS.iloadN X1.here hx rfl (hb hby dK4_1_4) rfl kt) ?_
  refine Go.st (S' := T1.setTop (mkF m 27 #[.val (.ref a), .val (.ref ca), .val (.int (0 : Int32)), .val (.int (1 : Int32)), .val .null, .unset] [])) (fun t kt => XS.ifYes X1.here hx rfl (pc0 := 5) (pc' := 27) rfl (hb hby dK4_1_5) rfl (XT.i0_ne_t (by decide)) (by decide) (by decide) kt) ?_
  obtain ⟨T2, X2, e2, st2⟩ := getS X1 hx hZ (host := "") hown (hw _ (List.mem_of_getElem? (i := 15) rfl)) Via.refl e1 S_cs (g := (mkF m 27 #[.val (.ref a), .val (.ref ca), .val (.int (0 : Int32)), .val (.int (1 : Int32)), .val .null, .unset] [])) rfl (hb hby dK4_1_27)
  refine Go.st (S' := T2.setTop (mkF m 30 #[.val (.ref a), .val (.ref ca), .val (.int (0 : Int32)), .val (.int (1 : Int32)), .val .null, .unset] [(.int cs)])) (fun t kt => st2 t kt) ?_
  refine Go.st (S' := T2.setTop (mkF m 33 #[.val (.ref a), .val (.ref ca), .val (.int (0 : Int32)), .val (.int (1 : Int32)), .val .null, .unset] [])) (fun t kt => XS.ifNo X2.here hx rfl (hb hby dK4_1_30) rfl (XT.i0_eq_f hcs) kt) ?_
  refine Go.st (S' := T2.setTop (mkF m 34 #[.val (.ref a), .val (.ref ca), .val (.int (0 : Int32)), .val (.int (1 : Int32)), .val .null, .unset] [(.ref ca)])) (fun t kt => XS.aloadN X2.here hx rfl (hb hby dK4_1_33) rfl rfl kt) ?_
  refine Go.st (S' := T2.setTop (mkF m 35 #[.val (.ref a), .val (.ref ca), .val (.int (0 : Int32)), .val (.int (1 : Int32)), .val .null, .unset] [(.int (0 : Int32)), (.ref ca)])) (fun t kt => XS.iloadN X2.here hx rfl (hb hby dK4_1_34) rfl kt) ?_
  refine Go.st (S' := T2.setTop (mkF m 36 #[.val (.ref a), .val (.ref ca), .val (.int (0 : Int32)), .val (.int (1 : Int32)), .val .null, .unset] [(.int (1 : Int32)), (.int (0 : Int32)), (.ref ca)])) (fun t kt => XS.iloadN X2.here hx rfl (hb hby dK4_1_35) rfl kt) ?_
  refine Go.stat X2 hx hZ hown (hw _ (List.mem_of_getElem? (i := 16) rfl)) (hw _ (List.mem_of_getElem? (i := 17) rfl)) (hw _ (List.mem_of_getElem? (i := 18) rfl)) (hw _ (List.mem_of_getElem? (i := 19) rfl)) (by decide) (argsL := [(.ref ca), (.int (0 : Int32)), (.int (1 : Int32))]) (rest := []) (rmK3_1 l Z a0 hw ca kc x0 h0 n0 Z0 V_c hx0) e2 rfl (by rw [hml]; rfl) pd___CII__B rfl (hb hby dK4_1_36) 0 (Nat.le_refl _) (by decide) (by decide) (by decide) (by decide) ?_
  intro v3 T3 L3 X3 hQ3
  obtain ⟨d3, k3, hv3, N3', K3', y3_0, u3_0, f3_0⟩ := hQ3
  subst hv3
  have N3 := Fr.app N0 N3'
  have Z3 : n0 ≤ T3.heap.size := Nat.le_trans Z0 K3'.1
  have eh3 : T3.heap = T3.heap := rfl
  have sz_d3 : h0.size ≤ d3 := Nat.le_trans K0.1 y3_0
  have K3 := Keep.trans K0 K3' all0
  show Go pP eE below _ (T3.setTop (mkF m 39 #[.val (.ref a), .val (.ref ca), .val (.int (0 : Int32)), .val (.int (1 : Int32)), .val .null, .unset] [(.ref d3)]))
  refine Go.st (S' := T3.setTop (mkF m 41 #[.val (.ref a), .val (.ref ca), .val (.int (0 : Int32)), .val (.int (1 : Int32)), .val .null, .val (.ref d3)] [])) (fun t kt => XS.astore X3.here hx rfl (hb hby dK4_1_39) rfl rfl rfl kt) ?_
  refine Go.st (S' := T3.setTop (mkF m 42 #[.val (.ref a), .val (.ref ca), .val (.int (0 : Int32)), .val (.int (1 : Int32)), .val .null, .val (.ref d3)] [(.ref a)])) (fun t kt => XS.aloadN X3.here hx rfl (hb hby dK4_1_41) rfl rfl kt) ?_
  refine Go.st (S' := T3.setTop (mkF m 44 #[.val (.ref a), .val (.ref ca), .val (.int (0 : Int32)), .val (.int (1 : Int32)), .val .null, .val (.ref d3)] [(.ref d3), (.ref a)])) (fun t kt => XS.aload X3.here hx rfl (hb hby dK4_1_42) rfl rfl kt) ?_
  refine Go.st (S' := T3.setTop (mkF m 45 #[.val (.ref a), .val (.ref ca), .val (.int (0 : Int32)), .val (.int (1 : Int32)), .val .null, .val (.ref d3)] [(.int (1 : Int32)), (.ref d3), (.ref a)])) (fun t kt => XS.iloadN X3.here hx rfl (hb hby dK4_1_44) rfl kt) ?_
  refine Go.stat X3 hx hZ hown (hw _ (List.mem_of_getElem? (i := 24) rfl)) (hw _ (List.mem_of_getElem? (i := 25) rfl)) (hw _ (List.mem_of_getElem? (i := 18) rfl)) (hw _ (List.mem_of_getElem? (i := 26) rfl)) (by decide) (argsL := [(.ref d3), (.int (1 : Int32))]) (rest := [(.ref a)]) (rmKF_1 l Z a0 hw d3 k3 x0 T3.heap n0 Z3 f3_0) eh3 rfl (by rw [hml]; rfl) pd___BI_B rfl (hb hby dK4_1_45) 1 (Nat.le_refl _) (by decide) (by decide) (by decide) (by decide) ?_
  intro v4 T4 L4 X4 hQ4
  obtain ⟨hv4, N4', e4⟩ := hQ4
  subst hv4
  have N4 := Fr.app N3 N4'
  show Go pP eE below _ (T4.setTop (mkF m 48 #[.val (.ref a), .val (.ref ca), .val (.int (0 : Int32)), .val (.int (1 : Int32)), .val .null, .val (.ref d3)] [(.int (0 : Int32)), (.ref a)]))
  have f5 := (F_coder.keep K3' nin0)
  have f6 := (E_a.keep K3')
  obtain ⟨T7, h7, X7, e7, W7, st7⟩ := putF X4 hx hZ hown (host := "") (Or.inl (hw _ (List.mem_of_getElem? (i := 27) rfl))) Via.refl e4 f5 f6 (Or.inr ⟨(hw _ (List.mem_of_getElem? (i := 28) rfl)), rfl, hnm⟩) (hw _ (List.mem_of_getElem? (i := 3) rfl)) (ty := .byte) (by decide) rfl rfl (g := (mkF m 48 #[.val (.ref a), .val (.ref ca), .val (.int (0 : Int32)), .val (.int (1 : Int32)), .val .null, .val (.ref d3)] [(.int (0 : Int32)), (.ref a)])) rfl rfl (hb hby dK4_1_48)
  have F7 := Fld.same W7 f5
  have N7 := Fr.snoc X7 N4 ha
  have Z7 : n0 ≤ h7.size := by rw [Wr.size W7]; exact Z3
  have K7 := Keep.wr K3 W7 (Or.inl (List.mem_of_getElem? (i := 0) rfl))
  refine Go.st (S' := T7.setTop (mkF m 51 #[.val (.ref a), .val (.ref ca), .val (.int (0 : Int32)), .val (.int (1 : Int32)), .val .null, .val (.ref d3)] [])) (fun t kt => st7 t kt) ?_
  refine Go.st (S' := T7.setTop (mkF m 52 #[.val (.ref a), .val (.ref ca), .val (.int (0 : Int32)), .val (.int (1 : Int32)), .val .null, .val (.ref d3)] [(.ref a)])) (fun t kt => XS.aloadN X7.here hx rfl (hb hby dK4_1_51) rfl rfl kt) ?_
  refine Go.st (S' := T7.setTop (mkF m 54 #[.val (.ref a), .val (.ref ca), .val (.int (0 : Int32)), .val (.int (1 : Int32)), .val .null, .val (.ref d3)] [(.ref d3), (.ref a)])) (fun t kt => XS.aload X7.here hx rfl (hb hby dK4_1_52) rfl rfl kt) ?_
  have f8 := (Fld.other W7 (F_value.keep K3' nin0) (Or.inr (slot_ne (Or.inr (hw _ (List.mem_of_getElem? (i := 30) rfl))) (Or.inr (hw _ (List.mem_of_getElem? (i := 28) rfl))) (by decide) (t := (.array .byte)) (t' := .byte) (by decide) (by decide))))
  have f9 := (Exa.wr W7 f6)
  obtain ⟨T10, h10, X10, e10, W10, st10⟩ := putF X7 hx hZ hown (host := "") (Or.inl (hw _ (List.mem_of_getElem? (i := 29) rfl))) Via.refl e7 f8 f9 (Or.inr ⟨(hw _ (List.mem_of_getElem? (i := 30) rfl)), rfl, hnm⟩) (hw _ (List.mem_of_getElem? (i := 3) rfl)) (ty := (.array .byte)) (by decide) rfl rfl (g := (mkF m 54 #[.val (.ref a), .val (.ref ca), .val (.int (0 : Int32)), .val (.int (1 : Int32)), .val .null, .val (.ref d3)] [(.ref d3), (.ref a)])) rfl rfl (hb hby dK4_1_54)
  have F10 := Fld.same W10 f8
  have N10 := Fr.snoc X10 N7 ha
  have Z10 : n0 ≤ h10.size := by rw [Wr.size W10]; exact Z7
  have K10 := Keep.wr K7 W10 (Or.inl (List.mem_of_getElem? (i := 0) rfl))
  refine Go.st (S' := T10.setTop (mkF m 57 #[.val (.ref a), .val (.ref ca), .val (.int (0 : Int32)), .val (.int (1 : Int32)), .val .null, .val (.ref d3)] [])) (fun t kt => st10 t kt) ?_
  have f11 := (Exa.wr W10 f9)
  have f12 := (Fld.other W10 F7 (Or.inr (slot_ne (Or.inr (hw _ (List.mem_of_getElem? (i := 28) rfl))) (Or.inr (hw _ (List.mem_of_getElem? (i := 30) rfl))) (by decide) (t := .byte) (t' := (.array .byte)) (by decide) (by decide))))
  have f13 := ((f3_0.other W7 (Ne.symm (Nat.ne_of_lt (Nat.lt_of_lt_of_le E_a.lt y3_0)))).other W10 (Ne.symm (Nat.ne_of_lt (Nat.lt_of_lt_of_le E_a.lt y3_0))))
  exact ret_v X10 hx hlk hret (hb hby dK4_1_57) (by decide) (by decide) (by rw [e10]; exact ⟨_, _, rfl, N10, K10, sz_d3, u3_0, f11, F10, f12, f13⟩)
theorem dK1_1_0 : decode jdk_42_method_3_code 0 = .ok (.aload_n 0, 1) := by decide +kernel
theorem dK1_1_1 : decode jdk_42_method_3_code 1 = .ok (.aload_n 1, 1) := by decide +kernel
theorem dK1_1_2 : decode jdk_42_method_3_code 2 = .ok (.iconst 0, 1) := by decide +kernel
theorem dK1_1_3 : decode jdk_42_method_3_code 3 = .ok (.aload_n 1, 1) := by decide +kernel
theorem dK1_1_4 : decode jdk_42_method_3_code 4 = .ok (.arraylength, 1) := by decide +kernel
theorem dK1_1_5 : decode jdk_42_method_3_code 5 = .ok (.aconst_null, 1) := by decide +kernel
theorem dK1_1_6 : decode jdk_42_method_3_code 6 = .ok (.invokespecial 27, 3) := by decide +kernel
theorem dK1_1_9 : decode jdk_42_method_3_code 9 = .ok (.return_, 1) := by decide +kernel
theorem pd___CIILjava_lang_Void__V : parseMethodDescriptor "([CIILjava/lang/Void;)V" = some ⟨[(.array .char), .int, .int, (.object "java/lang/Void")], none⟩ := by decide +kernel
theorem ef_rmK1_1 (m : MethodId) (a : Addr) (ca : Addr) : entryFrame m #[(.ref a), (.ref ca)] 2 = mkF m 0 #[.val (.ref a), .val (.ref ca)] [] := by first | exact own_entry rfl | (simp [entryFrame, mkF, argsToLocals, Value.category]; done) | rfl
set_option maxRecDepth 65536 in
set_option maxHeartbeats 40000000 in
theorem rmK1_1 (l : Launch) (Z : State) (a0 : Array Value) (hw : ∀ d ∈ tables_1, d.before a0 Z = true) (a ca : Addr) (kc : ClassId) (x0 : Int32) (h0 : Heap) (n0 : Nat) (Z0 : n0 ≤ h0.size) (E_a : Exa Z h0 a "java/lang/String") (ha : n0 ≤ a) (hca : ca ≠ a) (F_value : Fld Z h0 a "java/lang/String" "value" "[B" .null) (F_coder : Fld Z h0 a "java/lang/String" "coder" "B" (.int (0 : Int32))) (V_c : Arv Z h0 ca kc .char (1 : Int32) [(.int x0)] (.int (0 : Int32))) (hx0 : ¬ (255 : Int32) < x0) (cs : Int32) (S_cs : Sta Z h0 "java/lang/String" "COMPACT_STRINGS" "Z" (.int cs)) (hcs : ¬ cs = 0) :
    Pays l (⟨"java/lang/String", "<init>", "([C)V"⟩ : MethodName) jdk_42_method_3_code 2 none ({ frames := 3, cells := 1, slots := 1, locals := 52 } : Room) Z #[(.ref a), (.ref ca)] h0 (fun v h L => ∃ d k, v = none ∧ Fr n0 L ∧ Keep h0 h [a] ∧ h0.size ≤ d ∧ n0 ≤ d ∧ Exa Z h a "java/lang/String" ∧ Fld Z h a "java/lang/String" "value" "[B" (.ref d) ∧ Fld Z h a "java/lang/String" "coder" "B" (.int (0 : Int32)) ∧ Arv Z h d k .byte (1 : Int32) [(.int (nar .byte (x0).toInt8.toInt32))] (.int (0 : Int32))) := by
  refine Pays.of (plainFor_of_name pn_java_lang_String) ?_
  intro pP eE sS m below methM cC T hx hby hml hret hlk hZ hown hnm eT X
  replace hown : sS.vm.findClass "java/lang/String" = some m.cls := hown
  have N0 := Fr.nil n0
  have K0 := Keep.refl h0 [a]
  refine Go.cast (ef_rmK1_1 m a ca) ?_
  refine Go.st (S' := T.setTop (mkF m 1 #[.val (.ref a), .val (.ref ca)] [(.ref a)])) (fun t kt => XS.aloadN X.here hx rfl (hb hby dK1_1_0) rfl rfl kt) ?_
  refine Go.st (S' := T.setTop (mkF m 2 #[.val (.ref a), .val (.ref ca)] [(.ref ca), (.ref a)])) (fun t kt => XS.aloadN X.here hx rfl (hb hby dK1_1_1) rfl rfl kt) ?_
  refine Go.st (S' := T.setTop (mkF m 3 #[.val (.ref a), .val (.ref ca)] [(.int (0 : Int32)), (.ref ca), (.ref a)])) (fun t kt => XS.iconst X.here hx rfl (hb hby dK1_1_2) kt) ?_
  refine Go.st (S' := T.setTop (mkF m 4 #[.val (.ref a), .val (.ref ca)] [(.ref ca), (.int (0 : Int32)), (.ref ca), (.ref a)])) (fun t kt => XS.aloadN X.here hx rfl (hb hby dK1_1_3) rfl rfl kt) ?_
  obtain ⟨cl1, Ar1, q1, S1, M1, H1, G1⟩ := id V_c
  refine Go.st (S' := T.setTop (mkF m 5 #[.val (.ref a), .val (.ref ca)] [(.int (1 : Int32)), (.int (0 : Int32)), (.ref ca), (.ref a)])) (fun t kt => own_alen X hx hZ eT Ar1 (len_of S1 M1) rfl (hb hby dK1_1_4) t kt) ?_
  refine Go.st (S' := T.setTop (mkF m 6 #[.val (.ref a), .val (.ref ca)] [.null, (.int (1 : Int32)), (.int (0 : Int32)), (.ref ca), (.ref a)])) (fun t kt => XS.aconstNull X.here hx rfl (hb hby dK1_1_5) kt) ?_
  refine Go.init X hx hZ rfl hown (hw _ (List.mem_of_getElem? (i := 8) rfl)) (hw _ (List.mem_of_getElem? (i := 9) rfl)) (hw _ (List.mem_of_getElem? (i := 11) rfl)) (hw _ (List.mem_of_getElem? (i := 4) rfl)) (by decide) (b := a) (argsL := [(.ref ca), (.int (0 : Int32)), (.int (1 : Int32)), .null]) (rest := []) (rmK4_1 l Z a0 hw a ca kc x0 h0 n0 Z0 E_a ha hca F_value F_coder V_c hx0 cs S_cs hcs) eT rfl (by rw [hml]; rfl) pd___CIILjava_lang_Void__V rfl (hb hby dK1_1_6) 0 (Nat.le_refl _) (by decide) (by decide) (by decide) (by decide) ?_
  intro v2 T2 L2 X2 hQ2
  obtain ⟨d2, k2, hv2, N2', K2', y2_0, u2_0, f2_0, f2_1, f2_2, f2_3⟩ := hQ2
  subst hv2
  have N2 := Fr.app N0 N2'
  have Z2 : n0 ≤ T2.heap.size := Nat.le_trans Z0 K2'.1
  have eh2 : T2.heap = T2.heap := rfl
  have sz_d2 : h0.size ≤ d2 := Nat.le_trans K0.1 y2_0
  have K2 := Keep.trans K0 K2' (allS (Or.inl (List.mem_of_getElem? (i := 0) rfl)) all0)
  show Go pP eE below _ (T2.setTop (mkF m 9 #[.val (.ref a), .val (.ref ca)] []))
  exact ret_v X2 hx hlk hret (hb hby dK1_1_9) (by decide) (by decide) (by rw [eh2]; exact ⟨_, _, rfl, N2, K2, sz_d2, u2_0, f2_0, f2_1, f2_2, f2_3⟩)
theorem d2_0 : decode prog_6_method_1_code 0 = .ok (.aload_n 0, 1) := by decide +kernel
theorem d2_1 : decode prog_6_method_1_code 1 = .ok (.invokespecial 1, 3) := by decide +kernel
theorem d2_4 : decode prog_6_method_1_code 4 = .ok (.aload_n 0, 1) := by decide +kernel
theorem d2_5 : decode prog_6_method_1_code 5 = .ok (.aload_n 1, 1) := by decide +kernel
theorem d2_6 : decode prog_6_method_1_code 6 = .ok (.putfield 7, 3) := by decide +kernel
theorem d2_9 : decode prog_6_method_1_code 9 = .ok (.aload_n 0, 1) := by decide +kernel
theorem d2_10 : decode prog_6_method_1_code 10 = .ok (.iload_n 2, 1) := by decide +kernel
theorem d2_11 : decode prog_6_method_1_code 11 = .ok (.putfield 13, 3) := by decide +kernel
theorem d2_14 : decode prog_6_method_1_code 14 = .ok (.aload_n 0, 1) := by decide +kernel
theorem d2_15 : decode prog_6_method_1_code 15 = .ok (.iload_n 3, 1) := by decide +kernel
theorem d2_16 : decode prog_6_method_1_code 16 = .ok (.putfield 17, 3) := by decide +kernel
theorem d2_19 : decode prog_6_method_1_code 19 = .ok (.return_, 1) := by decide +kernel
theorem pn_com_example_seatwright_seatwright_engine_Bucket : plainName "com/example/seatwright/seatwright/engine/Bucket" = true := by first | (simp [plainName, overriddenIn]; done) | decide +kernel
theorem ef_rm2 (m : MethodId) (a : Addr) (u : Addr) (sz : Int32) (iu : Int32) : entryFrame m #[(.ref a), (.ref u), (.int sz), (.int iu)] 4 = mkF m 0 #[.val (.ref a), .val (.ref u), .val (.int sz), .val (.int iu)] [] := by first | exact own_entry rfl | (simp [entryFrame, mkF, argsToLocals, Value.category]; done) | rfl
set_option maxRecDepth 65536 in
set_option maxHeartbeats 40000000 in
theorem rm2 (l : Launch) (Z : State) (a0 : Array Value) (hw : ∀ d ∈ tables_1, d.before a0 Z = true) (a u : Addr) (sz iu : Int32) (h0 : Heap) (n0 : Nat) (Z0 : n0 ≤ h0.size) (E_a : Exa Z h0 a "com/example/seatwright/seatwright/engine/Bucket") (ha : n0 ≤ a) (F_unit : Fld Z h0 a "com/example/seatwright/seatwright/engine/Bucket" "unit" "Ljava/lang/String;" .null) (F_size : Fld Z h0 a "com/example/seatwright/seatwright/engine/Bucket" "size" "I" (.int (0 : Int32))) (F_inUse : Fld Z h0 a "com/example/seatwright/seatwright/engine/Bucket" "inUse" "I" (.int (0 : Int32))) :
    Pays l (⟨"com/example/seatwright/seatwright/engine/Bucket", "<init>", "(Ljava/lang/String;II)V"⟩ : MethodName) prog_6_method_1_code 4 none ({ frames := 1, cells := 0, slots := 0, locals := 12 } : Room) Z #[(.ref a), (.ref u), (.int sz), (.int iu)] h0 (fun v h L => v = none ∧ Fr n0 L ∧ Keep h0 h [a] ∧ Exa Z h a "com/example/seatwright/seatwright/engine/Bucket" ∧ Fld Z h a "com/example/seatwright/seatwright/engine/Bucket" "size" "I" (.int sz) ∧ Fld Z h a "com/example/seatwright/seatwright/engine/Bucket" "inUse" "I" (.int iu)) := by
  refine Pays.of (plainFor_of_name pn_com_example_seatwright_seatwright_engine_Bucket) ?_
  intro pP eE sS m below methM cC T hx hby hml hret hlk hZ hown hnm eT X
  replace hown : sS.vm.findClass "com/example/seatwright/seatwright/engine/Bucket" = some m.cls := hown
  have N0 := Fr.nil n0
  have K0 := Keep.refl h0 [a]
  refine Go.cast (ef_rm2 m a u sz iu) ?_
  refine Go.st (S' := T.setTop (mkF m 1 #[.val (.ref a), .val (.ref u), .val (.int sz), .val (.int iu)] [(.ref a)])) (fun t kt => XS.aloadN X.here hx rfl (hb hby d2_0) rfl rfl kt) ?_
  obtain ⟨T1, X1, e1, st1⟩ := initO X hx hZ hown (hw _ (List.mem_of_getElem? (i := 37) rfl)) (hw _ (List.mem_of_getElem? (i := 13) rfl)) (hw _ (List.mem_of_getElem? (i := 14) rfl)) eT (g := (mkF m 1 #[.val (.ref a), .val (.ref u), .val (.int sz), .val (.int iu)] [(.ref a)])) rfl (by rw [hml]; rfl) rfl (hb hby d2_1) (by decide) (W := 0) (by show 2 * 0 + _ ≤ _; exact Nat.le_of_eq rfl) (by decide)
  refine Go.st (S' := T1.setTop (mkF m 4 #[.val (.ref a), .val (.ref u), .val (.int sz), .val (.int iu)] [])) (fun t kt => st1 t kt) ?_
  refine Go.st (S' := T1.setTop (mkF m 5 #[.val (.ref a), .val (.ref u), .val (.int sz), .val (.int iu)] [(.ref a)])) (fun t kt => XS.aloadN X1.here hx rfl (hb hby d2_4) rfl rfl kt) ?_
  refine Go.st (S' := T1.setTop (mkF m 6 #[.val (.ref a), .val (.ref u), .val (.int sz), .val (.int iu)] [(.ref u), (.ref a)])) (fun t kt => XS.aloadN X1.here hx rfl (hb hby d2_5) rfl rfl kt) ?_
  obtain ⟨T2, h2, X2, e2, W2, st2⟩ := putF X1 hx hZ hown (host := "") (Or.inl (hw _ (List.mem_of_getElem? (i := 38) rfl))) Via.refl e1 F_unit E_a (Or.inr ⟨(hw _ (List.mem_of_getElem? (i := 39) rfl)), rfl, hnm⟩) (hw _ (List.mem_of_getElem? (i := 32) rfl)) (ty := (.object "java/lang/String")) (by decide) rfl rfl (g := (mkF m 6 #[.val (.ref a), .val (.ref u), .val (.int sz), .val (.int iu)] [(.ref u), (.ref a)])) rfl rfl (hb hby d2_6)
  have F2 := Fld.same W2 F_unit
  have N2 := Fr.snoc X2 N0 ha
  have Z2 : n0 ≤ h2.size := by rw [Wr.size W2]; exact Z0
  have K2 := Keep.wr K0 W2 (Or.inl (List.mem_of_getElem? (i := 0) rfl))
  refine Go.st (S' := T2.setTop (mkF m 9 #[.val (.ref a), .val (.ref u), .val (.int sz), .val (.int iu)] [])) (fun t kt => st2 t kt) ?_
  refine Go.st (S' := T2.setTop (mkF m 10 #[.val (.ref a), .val (.ref u), .val (.int sz), .val (.int iu)] [(.ref a)])) (fun t kt => XS.aloadN X2.here hx rfl (hb hby d2_9) rfl rfl kt) ?_
  refine Go.st (S' := T2.setTop (mkF m 11 #[.val (.ref a), .val (.ref u), .val (.int sz), .val (.int iu)] [(.int sz), (.ref a)])) (fun t kt => XS.iloadN X2.here hx rfl (hb hby d2_10) rfl kt) ?_
  have f3 := (Fld.other W2 F_size (Or.inr (slot_ne (Or.inr (hw _ (List.mem_of_getElem? (i := 41) rfl))) (Or.inr (hw _ (List.mem_of_getElem? (i := 39) rfl))) (by decide) (t := .int) (t' := (.object "java/lang/String")) (by decide) (by decide))))
  have f4 := (Exa.wr W2 E_a)
  obtain ⟨T5, h5, X5, e5, W5, st5⟩ := putF X2 hx hZ hown (host := "") (Or.inl (hw _ (List.mem_of_getElem? (i := 40) rfl))) Via.refl e2 f3 f4 (Or.inr ⟨(hw _ (List.mem_of_getElem? (i := 41) rfl)), rfl, hnm⟩) (hw _ (List.mem_of_getElem? (i := 32) rfl)) (ty := .int) (by decide) rfl rfl (g := (mkF m 11 #[.val (.ref a), .val (.ref u), .val (.int sz), .val (.int iu)] [(.int sz), (.ref a)])) rfl rfl (hb hby d2_11)
  have F5 := Fld.same W5 f3
  have N5 := Fr.snoc X5 N2 ha
  have Z5 : n0 ≤ h5.size := by rw [Wr.size W5]; exact Z2
  have K5 := Keep.wr K2 W5 (Or.inl (List.mem_of_getElem? (i := 0) rfl))
  refine Go.st (S' := T5.setTop (mkF m 14 #[.val (.ref a), .val (.ref u), .val (.int sz), .val (.int iu)] [])) (fun t kt => st5 t kt) ?_
  refine Go.st (S' := T5.setTop (mkF m 15 #[.val (.ref a), .val (.ref u), .val (.int sz), .val (.int iu)] [(.ref a)])) (fun t kt => XS.aloadN X5.here hx rfl (hb hby d2_14) rfl rfl kt) ?_
  refine Go.st (S' := T5.setTop (mkF m 16 #[.val (.ref a), .val (.ref u), .val (.int sz), .val (.int iu)] [(.int iu), (.ref a)])) (fun t kt => XS.iloadN X5.here hx rfl (hb hby d2_15) rfl kt) ?_
  have f6 := (Fld.other W5 (Fld.other W2 F_inUse (Or.inr (slot_ne (Or.inl (hw _ (List.mem_of_getElem? (i := 43) rfl))) (Or.inr (hw _ (List.mem_of_getElem? (i := 39) rfl))) (by decide) (t := .int) (t' := (.object "java/lang/String")) (by decide) (by decide)))) (Or.inr (slot_ne (Or.inl (hw _ (List.mem_of_getElem? (i := 43) rfl))) (Or.inr (hw _ (List.mem_of_getElem? (i := 41) rfl))) (by decide) (t := .int) (t' := .int) (by decide) (by decide))))
  have f7 := (Exa.wr W5 f4)
  obtain ⟨T8, h8, X8, e8, W8, st8⟩ := putF X5 hx hZ hown (host := "") (Or.inl (hw _ (List.mem_of_getElem? (i := 42) rfl))) Via.refl e5 f6 f7 (Or.inl (hw _ (List.mem_of_getElem? (i := 43) rfl))) (hw _ (List.mem_of_getElem? (i := 32) rfl)) (ty := .int) (by decide) rfl rfl (g := (mkF m 16 #[.val (.ref a), .val (.ref u), .val (.int sz), .val (.int iu)] [(.int iu), (.ref a)])) rfl rfl (hb hby d2_16)
  have F8 := Fld.same W8 f6
  have N8 := Fr.snoc X8 N5 ha
  have Z8 : n0 ≤ h8.size := by rw [Wr.size W8]; exact Z5
  have K8 := Keep.wr K5 W8 (Or.inl (List.mem_of_getElem? (i := 0) rfl))
  refine Go.st (S' := T8.setTop (mkF m 19 #[.val (.ref a), .val (.ref u), .val (.int sz), .val (.int iu)] [])) (fun t kt => st8 t kt) ?_
  have f9 := (Exa.wr W8 f7)
  have f10 := (Fld.other W8 F5 (Or.inr (slot_ne (Or.inr (hw _ (List.mem_of_getElem? (i := 41) rfl))) (Or.inl (hw _ (List.mem_of_getElem? (i := 43) rfl))) (by decide) (t := .int) (t' := .int) (by decide) (by decide))))
  exact ret_v X8 hx hlk hret (hb hby d2_19) (by decide) (by decide) (by rw [e8]; exact ⟨rfl, N8, K8, f9, f10, F8⟩)
theorem d3_0 : decode prog_6_method_5_code 0 = .ok (.aload_n 0, 1) := by decide +kernel
theorem d3_1 : decode prog_6_method_5_code 1 = .ok (.getfield 13, 3) := by decide +kernel
theorem d3_4 : decode prog_6_method_5_code 4 = .ok (.aload_n 0, 1) := by decide +kernel
theorem d3_5 : decode prog_6_method_5_code 5 = .ok (.getfield 17, 3) := by decide +kernel
theorem d3_8 : decode prog_6_method_5_code 8 = .ok (.isub, 1) := by decide +kernel
theorem d3_9 : decode prog_6_method_5_code 9 = .ok (.ireturn, 1) := by decide +kernel
theorem ef_rm3 (m : MethodId) (a : Addr) : entryFrame m #[(.ref a)] 1 = mkF m 0 #[.val (.ref a)] [] := by first | exact own_entry rfl | (simp [entryFrame, mkF, argsToLocals, Value.category]; done) | rfl
set_option maxRecDepth 65536 in
set_option maxHeartbeats 40000000 in
theorem rm3 (l : Launch) (Z : State) (a0 : Array Value) (hw : ∀ d ∈ tables_1, d.before a0 Z = true) (a : Addr) (sz iu : Int32) (h0 : Heap) (n0 : Nat) (Z0 : n0 ≤ h0.size) (F_s : Fld Z h0 a "com/example/seatwright/seatwright/engine/Bucket" "size" "I" (.int sz)) (F_u : Fld Z h0 a "com/example/seatwright/seatwright/engine/Bucket" "inUse" "I" (.int iu)) :
    Pays l (⟨"com/example/seatwright/seatwright/engine/Bucket", "free", "()I"⟩ : MethodName) prog_6_method_5_code 1 (some .int) ({ frames := 0, cells := 0, slots := 0, locals := 0 } : Room) Z #[(.ref a)] h0 (fun v h L => v = some (.int (sz - iu)) ∧ Fr n0 L ∧ h = h0) := by
  refine Pays.of (plainFor_of_name pn_com_example_seatwright_seatwright_engine_Bucket) ?_
  intro pP eE sS m below methM cC T hx hby hml hret hlk hZ hown hnm eT X
  replace hown : sS.vm.findClass "com/example/seatwright/seatwright/engine/Bucket" = some m.cls := hown
  have N0 := Fr.nil n0
  refine Go.cast (ef_rm3 m a) ?_
  refine Go.st (S' := T.setTop (mkF m 1 #[.val (.ref a)] [(.ref a)])) (fun t kt => XS.aloadN X.here hx rfl (hb hby d3_0) rfl rfl kt) ?_
  obtain ⟨T1, X1, e1, st1⟩ := getF X hx hZ hown (host := "") (Or.inl (hw _ (List.mem_of_getElem? (i := 40) rfl))) Via.refl eT F_s (g := (mkF m 1 #[.val (.ref a)] [(.ref a)])) rfl rfl (hb hby d3_1)
  refine Go.st (S' := T1.setTop (mkF m 4 #[.val (.ref a)] [(.int sz)])) (fun t kt => st1 t kt) ?_
  refine Go.st (S' := T1.setTop (mkF m 5 #[.val (.ref a)] [(.ref a), (.int sz)])) (fun t kt => XS.aloadN X1.here hx rfl (hb hby d3_4) rfl rfl kt) ?_
  obtain ⟨T2, X2, e2, st2⟩ := getF X1 hx hZ hown (host := "") (Or.inl (hw _ (List.mem_of_getElem? (i := 42) rfl))) Via.refl e1 F_u (g := (mkF m 5 #[.val (.ref a)] [(.ref a), (.int sz)])) rfl rfl (hb hby d3_5)
  refine Go.st (S' := T2.setTop (mkF m 8 #[.val (.ref a)] [(.int iu), (.int sz)])) (fun t kt => st2 t kt) ?_
  refine Go.st (S' := T2.setTop (mkF m 9 #[.val (.ref a)] [(.int (sz - iu))])) (fun t kt => XS.isub X2.here hx rfl (hb hby d3_8) rfl kt) ?_
  exact ret_i X2 hx hlk hret (hb hby d3_9) (by decide) (by decide) (⟨rfl, N0, e2⟩)
theorem d4_0 : decode prog_6_method_6_code 0 = .ok (.aload_n 0, 1) := by decide +kernel
theorem d4_1 : decode prog_6_method_6_code 1 = .ok (.invokevirtual 20, 3) := by decide +kernel
theorem d4_4 : decode prog_6_method_6_code 4 = .ok (.ifCond .gt 7, 3) := by decide +kernel
theorem d4_7 : decode prog_6_method_6_code 7 = .ok (.iconst 1, 1) := by decide +kernel
theorem d4_8 : decode prog_6_method_6_code 8 = .ok (.goto 4, 3) := by decide +kernel
theorem d4_11 : decode prog_6_method_6_code 11 = .ok (.iconst 0, 1) := by decide +kernel
theorem d4_12 : decode prog_6_method_6_code 12 = .ok (.ireturn, 1) := by decide +kernel
theorem pd___I : parseMethodDescriptor "()I" = some ⟨[], some .int⟩ := by decide +kernel
theorem ef_rm4 (m : MethodId) (a : Addr) : entryFrame m #[(.ref a)] 1 = mkF m 0 #[.val (.ref a)] [] := by first | exact own_entry rfl | (simp [entryFrame, mkF, argsToLocals, Value.category]; done) | rfl
set_option maxRecDepth 65536 in
set_option maxHeartbeats 40000000 in
theorem rm4 (l : Launch) (Z : State) (a0 : Array Value) (hw : ∀ d ∈ tables_1, d.before a0 Z = true) (a : Addr) (sz iu r : Int32) (h0 : Heap) (n0 : Nat) (Z0 : n0 ≤ h0.size) (E_a : Exa Z h0 a "com/example/seatwright/seatwright/engine/Bucket") (F_s : Fld Z h0 a "com/example/seatwright/seatwright/engine/Bucket" "size" "I" (.int sz)) (F_u : Fld Z h0 a "com/example/seatwright/seatwright/engine/Bucket" "inUse" "I" (.int iu)) (hr : (if 0 < sz - iu then 0 else 1) = r) :
    Pays l (⟨"com/example/seatwright/seatwright/engine/Bucket", "isFull", "()Z"⟩ : MethodName) prog_6_method_6_code 1 (some .boolean) ({ frames := 1, cells := 0, slots := 0, locals := 12 } : Room) Z #[(.ref a)] h0 (fun v h L => v = some (.int r) ∧ Fr n0 L ∧ h = h0) := by
  refine Pays.of (plainFor_of_name pn_com_example_seatwright_seatwright_engine_Bucket) ?_
  intro pP eE sS m below methM cC T hx hby hml hret hlk hZ hown hnm eT X
  replace hown : sS.vm.findClass "com/example/seatwright/seatwright/engine/Bucket" = some m.cls := hown
  have N0 := Fr.nil n0
  refine Go.cast (ef_rm4 m a) ?_
  refine Go.st (S' := T.setTop (mkF m 1 #[.val (.ref a)] [(.ref a)])) (fun t kt => XS.aloadN X.here hx rfl (hb hby d4_0) rfl rfl kt) ?_
  refine Go.virt X hx hZ hown (hw _ (List.mem_of_getElem? (i := 49) rfl)) (hw _ (List.mem_of_getElem? (i := 50) rfl)) (notFace_of_selects (mvT (args := #[]) hZ (hw _ (List.mem_of_getElem? (i := 52) rfl)))) (hw _ (List.mem_of_getElem? (i := 52) rfl)) (hw _ (List.mem_of_getElem? (i := 51) rfl)) (hw _ (List.mem_of_getElem? (i := 53) rfl)) (hw _ (List.mem_of_getElem? (i := 33) rfl)) (by decide) (b := a) (argsL := []) (rest := []) (rm3 l Z a0 hw a sz iu h0 n0 Z0 F_s F_u) eT E_a rfl (by rw [hml]; rfl) pd___I rfl (hb hby d4_1) 0 (Nat.le_refl _) (by decide) (by decide) (by decide) (by decide) ?_
  intro v1 T1 L1 X1 hQ1
  obtain ⟨hv1, N1', e1⟩ := hQ1
  subst hv1
  have N1 := Fr.app N0 N1'
  show Go pP eE below _ (T1.setTop (mkF m 4 #[.val (.ref a)] [(.int (sz - iu))]))
  by_cases hc4_2 : 0 < (sz - iu)
  · refine Go.st (S' := T1.setTop (mkF m 11 #[.val (.ref a)] [])) (fun t kt => XS.ifYes X1.here hx rfl (pc0 := 4) (pc' := 11) rfl (hb hby d4_4) rfl (XT.i0_gt_t hc4_2) (by decide) (by decide) kt) ?_
    refine Go.st (S' := T1.setTop (mkF m 12 #[.val (.ref a)] [(.int (0 : Int32))])) (fun t kt => XS.iconst X1.here hx rfl (hb hby d4_11) kt) ?_
    exact ret_b X1 hx hlk hret (hb hby d4_12) (by decide) (by decide) (⟨by rw [← hr]; simp [hc4_2] <;> rfl, N1, e1⟩)
  · refine Go.st (S' := T1.setTop (mkF m 7 #[.val (.ref a)] [])) (fun t kt => XS.ifNo X1.here hx rfl (hb hby d4_4) rfl (XT.i0_gt_f hc4_2) kt) ?_
    refine Go.st (S' := T1.setTop (mkF m 8 #[.val (.ref a)] [(.int (1 : Int32))])) (fun t kt => XS.iconst X1.here hx rfl (hb hby d4_7) kt) ?_
    refine Go.st (S' := T1.setTop (mkF m 12 #[.val (.ref a)] [(.int (1 : Int32))])) (fun t kt => XS.goto X1.here hx rfl (pc0 := 8) (pc' := 12) rfl (hb hby d4_8) (by decide) (by decide) kt) ?_
    exact ret_b X1 hx hlk hret (hb hby d4_12) (by decide) (by decide) (⟨by rw [← hr]; simp [hc4_2] <;> rfl, N1, e1⟩)
theorem own_nn (x : Int32) : 0 ≤ (x &&& (2147483647 : Int32)).toInt := (c_and x (2147483647 : Int32) (by decide)).1
theorem own_full {s u : Int32} (hs : 0 ≤ s.toInt) (hu : 0 ≤ u.toInt) : (if 0 < s - u then (0 : Int32) else 1) = (if u < s then (0 : Int32) else 1) := by
  have e : (0 < s - u) ↔ (u < s) := by
    rw [Int32.lt_iff_toInt_lt, Int32.lt_iff_toInt_lt]
    have h1 := c_isub s u
    have h2 := rng32 s
    have h3 := rng32 u
    have h4 := rng32 (s - u)
    have h5 : (0 : Int32).toInt = 0 := rfl
    omega
  by_cases q : u < s
  · rw [if_pos q, if_pos (e.mpr q)]
  · rw [if_neg q, if_neg (fun z => q (e.mp z))]
theorem own_char (x : Int32) : ¬ (255 : Int32) < (nar .char (x &&& (255 : Int32)).toUInt32.toUInt16.toUInt32.toInt32) := by
  have e : nar .char (x &&& (255 : Int32)).toUInt32.toUInt16.toUInt32.toInt32 = x &&& 255 := by
    rw [i2c_mask]
    exact i2c_mask x
  rw [e]
  have h := c_and x (255 : Int32) (by decide)
  rw [Int32.lt_iff_toInt_lt]
  have : (255 : Int32).toInt = 255 := rfl
  omega
theorem own_l2i {a : Int64} (h0 : ¬ a < 0) (h1 : ¬ (2147483647 : Int64) < a) : 0 ≤ a.toInt32.toInt := by
  rw [Int64.lt_iff_toInt_lt] at h0 h1
  have e0 : (0 : Int64).toInt = 0 := rfl
  have e1 : (2147483647 : Int64).toInt = 2147483647 := rfl
  have := c_l2i a
  have := rng32 a.toInt32
  omega
theorem pd___C_V : parseMethodDescriptor "([C)V" = some ⟨[(.array .char)], none⟩ := by decide +kernel
theorem pd__Ljava_lang_String_II_V : parseMethodDescriptor "(Ljava/lang/String;II)V" = some ⟨[(.object "java/lang/String"), .int, .int], none⟩ := by decide +kernel
theorem pd___Z : parseMethodDescriptor "()Z" = some ⟨[], some .boolean⟩ := by decide +kernel
theorem pn_com_example_seatwright_seatwright_engine_BucketIsFullPinLaw : plainName "com/example/seatwright/seatwright/engine/BucketIsFullPinLaw" = true := by first | (simp [plainName, overriddenIn]; done) | decide +kernel
theorem ef_rm0 (m : MethodId) (p0 : Int32) (p1 : Int32) (p2 : Int32) (p3 : Int32) : entryFrame m #[(.int p0), (.int p1), (.int p2), (.int p3)] maxLocals = mkF m 0 #[.val (.int p0), .val (.int p1), .val (.int p2), .val (.int p3), .unset, .unset, .unset, .unset, .unset, .unset, .unset, .unset, .unset, .unset, .unset] [] := by first | exact own_entry rfl | (simp [entryFrame, mkF, argsToLocals, Value.category, maxLocals]; done) | rfl
set_option maxRecDepth 65536 in
set_option maxHeartbeats 40000000 in
theorem rm0 (l : Launch) (Z : State) (a0 : Array Value) (hw : ∀ d ∈ tables_1, d.before a0 Z = true) (p0 p1 p2 p3 : Int32) (h0 : Heap) (n0 : Nat) (Z0 : n0 ≤ h0.size) (cs : Int32) (S_cs : Sta Z h0 "java/lang/String" "COMPACT_STRINGS" "Z" (.int cs)) (hcs : ¬ cs = 0) :
    Pays l x code maxLocals ret room_1 Z #[(.int p0), (.int p1), (.int p2), (.int p3)] h0 (fun v h L => v = some (.int 1) ∧ Fr n0 L) := by
  refine Pays.of (plainFor_of_name pn_com_example_seatwright_seatwright_engine_BucketIsFullPinLaw) ?_
  intro pP eE sS m below methM cC T hx hby hml hret hlk hZ hown hnm eT X
  replace hown : sS.vm.findClass "com/example/seatwright/seatwright/engine/BucketIsFullPinLaw" = some m.cls := hown
  have N0 := Fr.nil n0
  refine Go.cast (ef_rm0 m p0 p1 p2 p3) ?_
  refine Go.st (S' := T.setTop (mkF m 1 #[.val (.int p0), .val (.int p1), .val (.int p2), .val (.int p3), .unset, .unset, .unset, .unset, .unset, .unset, .unset, .unset, .unset, .unset, .unset] [(.int p0)])) (fun t kt => XS.iloadN X.here hx rfl (hb hby at_0) rfl kt) ?_
  refine Go.st (S' := T.setTop (mkF m 3 #[.val (.int p0), .val (.int p1), .val (.int p2), .val (.int p3), .unset, .unset, .unset, .unset, .unset, .unset, .unset, .unset, .unset, .unset, .unset] [(.int (2147483647 : Int32)), (.int p0)])) (fun t kt => X.ldcI hx hown (mv hZ (hw _ (List.mem_of_getElem? (i := 0) rfl))) rfl (hb hby at_1) kt) ?_
  refine Go.st (S' := T.setTop (mkF m 4 #[.val (.int p0), .val (.int p1), .val (.int p2), .val (.int p3), .unset, .unset, .unset, .unset, .unset, .unset, .unset, .unset, .unset, .unset, .unset] [(.int (p0 &&& (2147483647 : Int32)))])) (fun t kt => XS.iand X.here hx rfl (hb hby at_3) rfl kt) ?_
  refine Go.st (S' := T.setTop (mkF m 6 #[.val (.int p0), .val (.int p1), .val (.int p2), .val (.int p3), .val (.int (p0 &&& (2147483647 : Int32))), .unset, .unset, .unset, .unset, .unset, .unset, .unset, .unset, .unset, .unset] [])) (fun t kt => XS.istore X.here hx rfl (hb hby at_4) rfl rfl kt) ?_
  refine Go.st (S' := T.setTop (mkF m 7 #[.val (.int p0), .val (.int p1), .val (.int p2), .val (.int p3), .val (.int (p0 &&& (2147483647 : Int32))), .unset, .unset, .unset, .unset, .unset, .unset, .unset, .unset, .unset, .unset] [(.int p1)])) (fun t kt => XS.iloadN X.here hx rfl (hb hby at_6) rfl kt) ?_
  refine Go.st (S' := T.setTop (mkF m 9 #[.val (.int p0), .val (.int p1), .val (.int p2), .val (.int p3), .val (.int (p0 &&& (2147483647 : Int32))), .unset, .unset, .unset, .unset, .unset, .unset, .unset, .unset, .unset, .unset] [(.int (2147483647 : Int32)), (.int p1)])) (fun t kt => X.ldcI hx hown (mv hZ (hw _ (List.mem_of_getElem? (i := 0) rfl))) rfl (hb hby at_7) kt) ?_
  refine Go.st (S' := T.setTop (mkF m 10 #[.val (.int p0), .val (.int p1), .val (.int p2), .val (.int p3), .val (.int (p0 &&& (2147483647 : Int32))), .unset, .unset, .unset, .unset, .unset, .unset, .unset, .unset, .unset, .unset] [(.int (p1 &&& (2147483647 : Int32)))])) (fun t kt => XS.iand X.here hx rfl (hb hby at_9) rfl kt) ?_
  refine Go.st (S' := T.setTop (mkF m 12 #[.val (.int p0), .val (.int p1), .val (.int p2), .val (.int p3), .val (.int (p0 &&& (2147483647 : Int32))), .val (.int (p1 &&& (2147483647 : Int32))), .unset, .unset, .unset, .unset, .unset, .unset, .unset, .unset, .unset] [])) (fun t kt => XS.istore X.here hx rfl (hb hby at_10) rfl rfl kt) ?_
  refine Go.st (S' := T.setTop (mkF m 13 #[.val (.int p0), .val (.int p1), .val (.int p2), .val (.int p3), .val (.int (p0 &&& (2147483647 : Int32))), .val (.int (p1 &&& (2147483647 : Int32))), .unset, .unset, .unset, .unset, .unset, .unset, .unset, .unset, .unset] [(.int (1 : Int32))])) (fun t kt => XS.iconst X.here hx rfl (hb hby at_12) kt) ?_
  obtain ⟨T1, h1, k1, X1, e1, E1, A1, st1⟩ := newP X hx hZ (hw _ (List.mem_of_getElem? (i := 1) rfl)) eT (g := (mkF m 13 #[.val (.int p0), .val (.int p1), .val (.int p2), .val (.int p3), .val (.int (p0 &&& (2147483647 : Int32))), .val (.int (p1 &&& (2147483647 : Int32))), .unset, .unset, .unset, .unset, .unset, .unset, .unset, .unset, .unset] [(.int (1 : Int32))])) rfl (hb hby at_13) rfl (by decide) (cap := 1) (by decide) (by decide) (by decide) (by decide)
  obtain ⟨a1, g1⟩ : ∃ z, z = h0.size := ⟨_, rfl⟩
  rw [← g1] at A1 st1
  have V1 : Arv Z h1 a1 k1 .char (1 : Int32) [(.int (0 : Int32))] (.int (0 : Int32)) := Arv.pad (Arv.new A1 (by decide)) (pad_rep [] _ 1)
  have Z1 : n0 ≤ h1.size := Nat.le_trans Z0 E1.1
  refine Go.st (S' := T1.setTop (mkF m 15 #[.val (.int p0), .val (.int p1), .val (.int p2), .val (.int p3), .val (.int (p0 &&& (2147483647 : Int32))), .val (.int (p1 &&& (2147483647 : Int32))), .unset, .unset, .unset, .unset, .unset, .unset, .unset, .unset, .unset] [(.ref a1)])) (fun t kt => st1 t kt) ?_
  refine Go.st (S' := T1.setTop (mkF m 17 #[.val (.int p0), .val (.int p1), .val (.int p2), .val (.int p3), .val (.int (p0 &&& (2147483647 : Int32))), .val (.int (p1 &&& (2147483647 : Int32))), .val (.ref a1), .unset, .unset, .unset, .unset, .unset, .unset, .unset, .unset] [])) (fun t kt => XS.astore X1.here hx rfl (hb hby at_15) rfl rfl rfl kt) ?_
  refine Go.st (S' := T1.setTop (mkF m 19 #[.val (.int p0), .val (.int p1), .val (.int p2), .val (.int p3), .val (.int (p0 &&& (2147483647 : Int32))), .val (.int (p1 &&& (2147483647 : Int32))), .val (.ref a1), .unset, .unset, .unset, .unset, .unset, .unset, .unset, .unset] [(.ref a1)])) (fun t kt => XS.aload X1.here hx rfl (hb hby at_17) rfl rfl kt) ?_
  refine Go.st (S' := T1.setTop (mkF m 20 #[.val (.int p0), .val (.int p1), .val (.int p2), .val (.int p3), .val (.int (p0 &&& (2147483647 : Int32))), .val (.int (p1 &&& (2147483647 : Int32))), .val (.ref a1), .unset, .unset, .unset, .unset, .unset, .unset, .unset, .unset] [(.int (0 : Int32)), (.ref a1)])) (fun t kt => XS.iconst X1.here hx rfl (hb hby at_19) kt) ?_
  refine Go.st (S' := T1.setTop (mkF m 21 #[.val (.int p0), .val (.int p1), .val (.int p2), .val (.int p3), .val (.int (p0 &&& (2147483647 : Int32))), .val (.int (p1 &&& (2147483647 : Int32))), .val (.ref a1), .unset, .unset, .unset, .unset, .unset, .unset, .unset, .unset] [(.int p3), (.int (0 : Int32)), (.ref a1)])) (fun t kt => XS.iloadN X1.here hx rfl (hb hby at_20) rfl kt) ?_
  refine Go.st (S' := T1.setTop (mkF m 24 #[.val (.int p0), .val (.int p1), .val (.int p2), .val (.int p3), .val (.int (p0 &&& (2147483647 : Int32))), .val (.int (p1 &&& (2147483647 : Int32))), .val (.ref a1), .unset, .unset, .unset, .unset, .unset, .unset, .unset, .unset] [(.int (255 : Int32)), (.int p3), (.int (0 : Int32)), (.ref a1)])) (fun t kt => XT.sipushV X1.here hx rfl (255 : Int32) (hb hby at_21) (by decide) kt) ?_
  refine Go.st (S' := T1.setTop (mkF m 25 #[.val (.int p0), .val (.int p1), .val (.int p2), .val (.int p3), .val (.int (p0 &&& (2147483647 : Int32))), .val (.int (p1 &&& (2147483647 : Int32))), .val (.ref a1), .unset, .unset, .unset, .unset, .unset, .unset, .unset, .unset] [(.int (p3 &&& (255 : Int32))), (.int (0 : Int32)), (.ref a1)])) (fun t kt => XS.iand X1.here hx rfl (hb hby at_24) rfl kt) ?_
  refine Go.st (S' := T1.setTop (mkF m 26 #[.val (.int p0), .val (.int p1), .val (.int p2), .val (.int p3), .val (.int (p0 &&& (2147483647 : Int32))), .val (.int (p1 &&& (2147483647 : Int32))), .val (.ref a1), .unset, .unset, .unset, .unset, .unset, .unset, .unset, .unset] [(.int ((p3 &&& (255 : Int32))).toUInt32.toUInt16.toUInt32.toInt32), (.int (0 : Int32)), (.ref a1)])) (fun t kt => XT.i2c X1.here hx rfl (hb hby at_25) rfl kt) ?_
  obtain ⟨cl2, Ar2, q2, S2, M2, H2, G2⟩ := id V1
  obtain ⟨T2, h2, X2, e2, W2, st2⟩ := stC X1 hx hZ e1 Ar2 (j := (0 : Int32)) (inb_of S2 ⟨by decide, by decide⟩)  (g := (mkF m 26 #[.val (.int p0), .val (.int p1), .val (.int p2), .val (.int p3), .val (.int (p0 &&& (2147483647 : Int32))), .val (.int (p1 &&& (2147483647 : Int32))), .val (.ref a1), .unset, .unset, .unset, .unset, .unset, .unset, .unset, .unset] [(.int ((p3 &&& (255 : Int32))).toUInt32.toUInt16.toUInt32.toInt32), (.int (0 : Int32)), (.ref a1)])) rfl rfl (hb hby at_26)
  have V2 : Arv Z h2 a1 k1 .char (1 : Int32) [(.int (nar .char ((p3 &&& (255 : Int32))).toUInt32.toUInt16.toUInt32.toInt32))] (.int (0 : Int32)) := Arv.set Ar2 q2 S2 M2 H2 G2 (fits_nar_char _) W2 0 rfl (Nat.le_of_ble_eq_true rfl)
  have N2 := Fr.snoc X2 N0 (Nat.le_trans Z0 (Nat.le_of_eq g1.symm))
  have Z2 : n0 ≤ h2.size := by rw [Wr.size W2]; exact Z1
  refine Go.st (S' := T2.setTop (mkF m 27 #[.val (.int p0), .val (.int p1), .val (.int p2), .val (.int p3), .val (.int (p0 &&& (2147483647 : Int32))), .val (.int (p1 &&& (2147483647 : Int32))), .val (.ref a1), .unset, .unset, .unset, .unset, .unset, .unset, .unset, .unset] [])) (fun t kt => st2 t kt) ?_
  obtain ⟨T3, h3, X3, e3, E3, A3, D3, -, st3⟩ := newO X2 hx hZ hown (hw _ (List.mem_of_getElem? (i := 2) rfl)) (hw _ (List.mem_of_getElem? (i := 3) rfl)) (hw _ (List.mem_of_getElem? (i := 4) rfl)) e2 (g := (mkF m 27 #[.val (.int p0), .val (.int p1), .val (.int p2), .val (.int p3), .val (.int (p0 &&& (2147483647 : Int32))), .val (.int (p1 &&& (2147483647 : Int32))), .val (.ref a1), .unset, .unset, .unset, .unset, .unset, .unset, .unset, .unset] [])) rfl (hb hby at_27) (by decide) (by decide)
  obtain ⟨a3, g3⟩ : ∃ z, z = h2.size := ⟨_, rfl⟩
  rw [← g3] at A3 D3 st3
  have Z3 : n0 ≤ h3.size := Nat.le_trans Z2 E3.1
  have F3_coder : Fld Z h3 a3 "java/lang/String" "coder" "B" (.int (0 : Int32)) := D3 (Or.inr (hw _ (List.mem_of_getElem? (i := 28) rfl))) (ty := .byte) (by decide)
  have F3_value : Fld Z h3 a3 "java/lang/String" "value" "[B" .null := D3 (Or.inr (hw _ (List.mem_of_getElem? (i := 30) rfl))) (ty := (.array .byte)) (by decide)
  refine Go.st (S' := T3.setTop (mkF m 30 #[.val (.int p0), .val (.int p1), .val (.int p2), .val (.int p3), .val (.int (p0 &&& (2147483647 : Int32))), .val (.int (p1 &&& (2147483647 : Int32))), .val (.ref a1), .unset, .unset, .unset, .unset, .unset, .unset, .unset, .unset] [(.ref a3)])) (fun t kt => st3 t kt) ?_
  refine Go.st (S' := T3.setTop (mkF m 31 #[.val (.int p0), .val (.int p1), .val (.int p2), .val (.int p3), .val (.int (p0 &&& (2147483647 : Int32))), .val (.int (p1 &&& (2147483647 : Int32))), .val (.ref a1), .unset, .unset, .unset, .unset, .unset, .unset, .unset, .unset] [(.ref a3), (.ref a3)])) (fun t kt => XS.dup X3.here hx rfl (hb hby at_30) rfl rfl kt) ?_
  refine Go.st (S' := T3.setTop (mkF m 33 #[.val (.int p0), .val (.int p1), .val (.int p2), .val (.int p3), .val (.int (p0 &&& (2147483647 : Int32))), .val (.int (p1 &&& (2147483647 : Int32))), .val (.ref a1), .unset, .unset, .unset, .unset, .unset, .unset, .unset, .unset] [(.ref a1), (.ref a3), (.ref a3)])) (fun t kt => XS.aload X3.here hx rfl (hb hby at_31) rfl rfl kt) ?_
  have f4 := (V2.ext E3)
  have f5 := ((Sta.wr W2 (S_cs.ext E1)).ext E3)
  refine Go.init X3 hx hZ rfl hown (hw _ (List.mem_of_getElem? (i := 5) rfl)) (hw _ (List.mem_of_getElem? (i := 6) rfl)) (hw _ (List.mem_of_getElem? (i := 7) rfl)) (hw _ (List.mem_of_getElem? (i := 4) rfl)) (by decide) (b := a3) (argsL := [(.ref a1)]) (rest := [(.ref a3)]) (rmK1_1 l Z a0 hw a3 a1 k1 (nar .char ((p3 &&& (255 : Int32))).toUInt32.toUInt16.toUInt32.toInt32) h3 n0 Z3 A3 (Nat.le_trans Z2 (Nat.le_of_eq g3.symm)) (Nat.ne_of_lt (by rw [g3]; exact V2.lt)) F3_value F3_coder f4 (own_char p3) cs f5 hcs) e3 rfl (by rw [hml]; rfl) pd___C_V rfl (hb hby at_33) 1 (Nat.le_refl _) (by decide) (by decide) (by decide) (by decide) ?_
  intro v6 T6 L6 X6 hQ6
  obtain ⟨d6, k6, hv6, N6', K6', y6_0, u6_0, f6_0, f6_1, f6_2, f6_3⟩ := hQ6
  subst hv6
  have N6 := Fr.app N2 N6'
  have Z6 : n0 ≤ T6.heap.size := Nat.le_trans Z3 K6'.1
  have eh6 : T6.heap = T6.heap := rfl
  show Go pP eE below _ (T6.setTop (mkF m 36 #[.val (.int p0), .val (.int p1), .val (.int p2), .val (.int p3), .val (.int (p0 &&& (2147483647 : Int32))), .val (.int (p1 &&& (2147483647 : Int32))), .val (.ref a1), .unset, .unset, .unset, .unset, .unset, .unset, .unset, .unset] [(.ref a3)]))
  refine Go.st (S' := T6.setTop (mkF m 38 #[.val (.int p0), .val (.int p1), .val (.int p2), .val (.int p3), .val (.int (p0 &&& (2147483647 : Int32))), .val (.int (p1 &&& (2147483647 : Int32))), .val (.ref a1), .val (.ref a3), .unset, .unset, .unset, .unset, .unset, .unset, .unset] [])) (fun t kt => XS.astore X6.here hx rfl (hb hby at_36) rfl rfl rfl kt) ?_
  obtain ⟨T7, h7, X7, e7, E7, A7, D7, -, st7⟩ := newO X6 hx hZ hown (hw _ (List.mem_of_getElem? (i := 31) rfl)) (hw _ (List.mem_of_getElem? (i := 32) rfl)) (hw _ (List.mem_of_getElem? (i := 33) rfl)) eh6 (g := (mkF m 38 #[.val (.int p0), .val (.int p1), .val (.int p2), .val (.int p3), .val (.int (p0 &&& (2147483647 : Int32))), .val (.int (p1 &&& (2147483647 : Int32))), .val (.ref a1), .val (.ref a3), .unset, .unset, .unset, .unset, .unset, .unset, .unset] [])) rfl (hb hby at_38) (by decide) (by decide)
  obtain ⟨a7, g7⟩ : ∃ z, z = T6.heap.size := ⟨_, rfl⟩
  rw [← g7] at A7 D7 st7
  have Z7 : n0 ≤ h7.size := Nat.le_trans Z6 E7.1
  have f8 := (f4.keep K6' (ninS (Nat.ne_of_lt (by rw [g3]; exact V2.lt)) nin0))
  have F7_unit : Fld Z h7 a7 "com/example/seatwright/seatwright/engine/Bucket" "unit" "Ljava/lang/String;" .null := D7 (Or.inr (hw _ (List.mem_of_getElem? (i := 39) rfl))) (ty := (.object "java/lang/String")) (by decide)
  have F7_size : Fld Z h7 a7 "com/example/seatwright/seatwright/engine/Bucket" "size" "I" (.int (0 : Int32)) := D7 (Or.inr (hw _ (List.mem_of_getElem? (i := 41) rfl))) (ty := .int) (by decide)
  have F7_inUse : Fld Z h7 a7 "com/example/seatwright/seatwright/engine/Bucket" "inUse" "I" (.int (0 : Int32)) := D7 (Or.inl (hw _ (List.mem_of_getElem? (i := 43) rfl))) (ty := .int) (by decide)
  refine Go.st (S' := T7.setTop (mkF m 41 #[.val (.int p0), .val (.int p1), .val (.int p2), .val (.int p3), .val (.int (p0 &&& (2147483647 : Int32))), .val (.int (p1 &&& (2147483647 : Int32))), .val (.ref a1), .val (.ref a3), .unset, .unset, .unset, .unset, .unset, .unset, .unset] [(.ref a7)])) (fun t kt => st7 t kt) ?_
  refine Go.st (S' := T7.setTop (mkF m 42 #[.val (.int p0), .val (.int p1), .val (.int p2), .val (.int p3), .val (.int (p0 &&& (2147483647 : Int32))), .val (.int (p1 &&& (2147483647 : Int32))), .val (.ref a1), .val (.ref a3), .unset, .unset, .unset, .unset, .unset, .unset, .unset] [(.ref a7), (.ref a7)])) (fun t kt => XS.dup X7.here hx rfl (hb hby at_41) rfl rfl kt) ?_
  refine Go.st (S' := T7.setTop (mkF m 44 #[.val (.int p0), .val (.int p1), .val (.int p2), .val (.int p3), .val (.int (p0 &&& (2147483647 : Int32))), .val (.int (p1 &&& (2147483647 : Int32))), .val (.ref a1), .val (.ref a3), .unset, .unset, .unset, .unset, .unset, .unset, .unset] [(.ref a3), (.ref a7), (.ref a7)])) (fun t kt => XS.aload X7.here hx rfl (hb hby at_42) rfl rfl kt) ?_
  refine Go.st (S' := T7.setTop (mkF m 46 #[.val (.int p0), .val (.int p1), .val (.int p2), .val (.int p3), .val (.int (p0 &&& (2147483647 : Int32))), .val (.int (p1 &&& (2147483647 : Int32))), .val (.ref a1), .val (.ref a3), .unset, .unset, .unset, .unset, .unset, .unset, .unset] [(.int (p0 &&& (2147483647 : Int32))), (.ref a3), (.ref a7), (.ref a7)])) (fun t kt => XS.iload X7.here hx rfl (hb hby at_44) rfl kt) ?_
  refine Go.st (S' := T7.setTop (mkF m 48 #[.val (.int p0), .val (.int p1), .val (.int p2), .val (.int p3), .val (.int (p0 &&& (2147483647 : Int32))), .val (.int (p1 &&& (2147483647 : Int32))), .val (.ref a1), .val (.ref a3), .unset, .unset, .unset, .unset, .unset, .unset, .unset] [(.int (p1 &&& (2147483647 : Int32))), (.int (p0 &&& (2147483647 : Int32))), (.ref a3), (.ref a7), (.ref a7)])) (fun t kt => XS.iload X7.here hx rfl (hb hby at_46) rfl kt) ?_
  refine Go.init X7 hx hZ rfl hown (hw _ (List.mem_of_getElem? (i := 34) rfl)) (hw _ (List.mem_of_getElem? (i := 35) rfl)) (hw _ (List.mem_of_getElem? (i := 36) rfl)) (hw _ (List.mem_of_getElem? (i := 33) rfl)) (by decide) (b := a7) (argsL := [(.ref a3), (.int (p0 &&& (2147483647 : Int32))), (.int (p1 &&& (2147483647 : Int32)))]) (rest := [(.ref a7)]) (rm2 l Z a0 hw a7 a3 (p0 &&& (2147483647 : Int32)) (p1 &&& (2147483647 : Int32)) h7 n0 Z7 A7 (Nat.le_trans Z6 (Nat.le_of_eq g7.symm)) F7_unit F7_size F7_inUse) e7 rfl (by rw [hml]; rfl) pd__Ljava_lang_String_II_V rfl (hb hby at_48) 1 (Nat.le_refl _) (by decide) (by decide) (by decide) (by decide) ?_
  intro v9 T9 L9 X9 hQ9
  have f10 := (f6_0.ext E7)
  have f11 := (f8.ext E7)
  have f12 := (f6_3.ext E7)
  obtain ⟨hv9, N9', K9', f9_0, f9_1, f9_2⟩ := hQ9
  subst hv9
  have N9 := Fr.app N6 N9'
  have Z9 : n0 ≤ T9.heap.size := Nat.le_trans Z7 K9'.1
  have eh9 : T9.heap = T9.heap := rfl
  show Go pP eE below _ (T9.setTop (mkF m 51 #[.val (.int p0), .val (.int p1), .val (.int p2), .val (.int p3), .val (.int (p0 &&& (2147483647 : Int32))), .val (.int (p1 &&& (2147483647 : Int32))), .val (.ref a1), .val (.ref a3), .unset, .unset, .unset, .unset, .unset, .unset, .unset] [(.ref a7)]))
  refine Go.st (S' := T9.setTop (mkF m 53 #[.val (.int p0), .val (.int p1), .val (.int p2), .val (.int p3), .val (.int (p0 &&& (2147483647 : Int32))), .val (.int (p1 &&& (2147483647 : Int32))), .val (.ref a1), .val (.ref a3), .val (.ref a7), .unset, .unset, .unset, .unset, .unset, .unset] [])) (fun t kt => XS.astore X9.here hx rfl (hb hby at_51) rfl rfl rfl kt) ?_
  refine Go.st (S' := T9.setTop (mkF m 55 #[.val (.int p0), .val (.int p1), .val (.int p2), .val (.int p3), .val (.int (p0 &&& (2147483647 : Int32))), .val (.int (p1 &&& (2147483647 : Int32))), .val (.ref a1), .val (.ref a3), .val (.ref a7), .unset, .unset, .unset, .unset, .unset, .unset] [(.ref a7)])) (fun t kt => XS.aload X9.here hx rfl (hb hby at_53) rfl rfl kt) ?_
  refine Go.virt X9 hx hZ hown (hw _ (List.mem_of_getElem? (i := 44) rfl)) (hw _ (List.mem_of_getElem? (i := 45) rfl)) (notFace_of_selects (mvT (args := #[]) hZ (hw _ (List.mem_of_getElem? (i := 47) rfl)))) (hw _ (List.mem_of_getElem? (i := 47) rfl)) (hw _ (List.mem_of_getElem? (i := 46) rfl)) (hw _ (List.mem_of_getElem? (i := 48) rfl)) (hw _ (List.mem_of_getElem? (i := 33) rfl)) (by decide) (b := a7) (argsL := []) (rest := []) (rm4 l Z a0 hw a7 (p0 &&& (2147483647 : Int32)) (p1 &&& (2147483647 : Int32)) (if (p1 &&& (2147483647 : Int32)) < (p0 &&& (2147483647 : Int32)) then (0 : Int32) else 1) T9.heap n0 Z9 f9_0 f9_1 f9_2 (own_full (own_nn p0) (own_nn p1))) eh9 f9_0 rfl (by rw [hml]; rfl) pd___Z rfl (hb hby at_55) 0 (Nat.le_refl _) (by decide) (by decide) (by decide) (by decide) ?_
  intro v13 T13 L13 X13 hQ13
  obtain ⟨hv13, N13', e13⟩ := hQ13
  subst hv13
  have N13 := Fr.app N9 N13'
  show Go pP eE below _ (T13.setTop (mkF m 58 #[.val (.int p0), .val (.int p1), .val (.int p2), .val (.int p3), .val (.int (p0 &&& (2147483647 : Int32))), .val (.int (p1 &&& (2147483647 : Int32))), .val (.ref a1), .val (.ref a3), .val (.ref a7), .unset, .unset, .unset, .unset, .unset, .unset] [(.int (if (p1 &&& (2147483647 : Int32)) < (p0 &&& (2147483647 : Int32)) then (0 : Int32) else 1))]))
  refine Go.st (S' := T13.setTop (mkF m 60 #[.val (.int p0), .val (.int p1), .val (.int p2), .val (.int p3), .val (.int (p0 &&& (2147483647 : Int32))), .val (.int (p1 &&& (2147483647 : Int32))), .val (.ref a1), .val (.ref a3), .val (.ref a7), .unset, .unset, .unset, .unset, .unset, .unset] [(.int (p1 &&& (2147483647 : Int32))), (.int (if (p1 &&& (2147483647 : Int32)) < (p0 &&& (2147483647 : Int32)) then (0 : Int32) else 1))])) (fun t kt => XS.iload X13.here hx rfl (hb hby at_58) rfl kt) ?_
  refine Go.st (S' := T13.setTop (mkF m 62 #[.val (.int p0), .val (.int p1), .val (.int p2), .val (.int p3), .val (.int (p0 &&& (2147483647 : Int32))), .val (.int (p1 &&& (2147483647 : Int32))), .val (.ref a1), .val (.ref a3), .val (.ref a7), .unset, .unset, .unset, .unset, .unset, .unset] [(.int (p0 &&& (2147483647 : Int32))), (.int (p1 &&& (2147483647 : Int32))), (.int (if (p1 &&& (2147483647 : Int32)) < (p0 &&& (2147483647 : Int32)) then (0 : Int32) else 1))])) (fun t kt => XS.iload X13.here hx rfl (hb hby at_60) rfl kt) ?_
  by_cases hc62_14 : (p1 &&& (2147483647 : Int32)) < (p0 &&& (2147483647 : Int32))
  · refine Go.st (S' := T13.setTop (mkF m 69 #[.val (.int p0), .val (.int p1), .val (.int p2), .val (.int p3), .val (.int (p0 &&& (2147483647 : Int32))), .val (.int (p1 &&& (2147483647 : Int32))), .val (.ref a1), .val (.ref a3), .val (.ref a7), .unset, .unset, .unset, .unset, .unset, .unset] [(.int (if (p1 &&& (2147483647 : Int32)) < (p0 &&& (2147483647 : Int32)) then (0 : Int32) else 1))])) (fun t kt => XS.icmpYes X13.here hx rfl (pc0 := 62) (pc' := 69) rfl (hb hby at_62) rfl (XT.ii_lt_t hc62_14) (by decide) (by decide) kt) ?_
    refine Go.st (S' := T13.setTop (mkF m 70 #[.val (.int p0), .val (.int p1), .val (.int p2), .val (.int p3), .val (.int (p0 &&& (2147483647 : Int32))), .val (.int (p1 &&& (2147483647 : Int32))), .val (.ref a1), .val (.ref a3), .val (.ref a7), .unset, .unset, .unset, .unset, .unset, .unset] [(.int (0 : Int32)), (.int (if (p1 &&& (2147483647 : Int32)) < (p0 &&& (2147483647 : Int32)) then (0 : Int32) else 1))])) (fun t kt => XS.iconst X13.here hx rfl (hb hby at_69) kt) ?_
    refine Go.st (S' := T13.setTop (mkF m 73 #[.val (.int p0), .val (.int p1), .val (.int p2), .val (.int p3), .val (.int (p0 &&& (2147483647 : Int32))), .val (.int (p1 &&& (2147483647 : Int32))), .val (.ref a1), .val (.ref a3), .val (.ref a7), .unset, .unset, .unset, .unset, .unset, .unset] [])) (fun t kt => XS.icmpNo X13.here hx rfl (hb hby at_70) rfl (XT.ii_ne_f (if_pos hc62_14)) kt) ?_
    refine Go.st (S' := T13.setTop (mkF m 74 #[.val (.int p0), .val (.int p1), .val (.int p2), .val (.int p3), .val (.int (p0 &&& (2147483647 : Int32))), .val (.int (p1 &&& (2147483647 : Int32))), .val (.ref a1), .val (.ref a3), .val (.ref a7), .unset, .unset, .unset, .unset, .unset, .unset] [(.int (1 : Int32))])) (fun t kt => XS.iconst X13.here hx rfl (hb hby at_73) kt) ?_
    refine Go.st (S' := T13.setTop (mkF m 78 #[.val (.int p0), .val (.int p1), .val (.int p2), .val (.int p3), .val (.int (p0 &&& (2147483647 : Int32))), .val (.int (p1 &&& (2147483647 : Int32))), .val (.ref a1), .val (.ref a3), .val (.ref a7), .unset, .unset, .unset, .unset, .unset, .unset] [(.int (1 : Int32))])) (fun t kt => XS.goto X13.here hx rfl (pc0 := 74) (pc' := 78) rfl (hb hby at_74) (by decide) (by decide) kt) ?_
    refine Go.st (S' := T13.setTop (mkF m 80 #[.val (.int p0), .val (.int p1), .val (.int p2), .val (.int p3), .val (.int (p0 &&& (2147483647 : Int32))), .val (.int (p1 &&& (2147483647 : Int32))), .val (.ref a1), .val (.ref a3), .val (.ref a7), .val (.int (1 : Int32)), .unset, .unset, .unset, .unset, .unset] [])) (fun t kt => XS.istore X13.here hx rfl (hb hby at_78) rfl rfl kt) ?_
    refine Go.st (S' := T13.setTop (mkF m 82 #[.val (.int p0), .val (.int p1), .val (.int p2), .val (.int p3), .val (.int (p0 &&& (2147483647 : Int32))), .val (.int (p1 &&& (2147483647 : Int32))), .val (.ref a1), .val (.ref a3), .val (.ref a7), .val (.int (1 : Int32)), .unset, .unset, .unset, .unset, .unset] [(.int (p0 &&& (2147483647 : Int32)))])) (fun t kt => XS.iload X13.here hx rfl (hb hby at_80) rfl kt) ?_
    refine Go.st (S' := T13.setTop (mkF m 83 #[.val (.int p0), .val (.int p1), .val (.int p2), .val (.int p3), .val (.int (p0 &&& (2147483647 : Int32))), .val (.int (p1 &&& (2147483647 : Int32))), .val (.ref a1), .val (.ref a3), .val (.ref a7), .val (.int (1 : Int32)), .unset, .unset, .unset, .unset, .unset] [(.long ((p0 &&& (2147483647 : Int32))).toInt64)])) (fun t kt => XT.i2l X13.here hx rfl (hb hby at_82) rfl kt) ?_
    refine Go.st (S' := T13.setTop (mkF m 84 #[.val (.int p0), .val (.int p1), .val (.int p2), .val (.int p3), .val (.int (p0 &&& (2147483647 : Int32))), .val (.int (p1 &&& (2147483647 : Int32))), .val (.ref a1), .val (.ref a3), .val (.ref a7), .val (.int (1 : Int32)), .unset, .unset, .unset, .unset, .unset] [(.int p2), (.long ((p0 &&& (2147483647 : Int32))).toInt64)])) (fun t kt => XS.iloadN X13.here hx rfl (hb hby at_83) rfl kt) ?_
    refine Go.st (S' := T13.setTop (mkF m 85 #[.val (.int p0), .val (.int p1), .val (.int p2), .val (.int p3), .val (.int (p0 &&& (2147483647 : Int32))), .val (.int (p1 &&& (2147483647 : Int32))), .val (.ref a1), .val (.ref a3), .val (.ref a7), .val (.int (1 : Int32)), .unset, .unset, .unset, .unset, .unset] [(.int (3 : Int32)), (.int p2), (.long ((p0 &&& (2147483647 : Int32))).toInt64)])) (fun t kt => XS.iconst X13.here hx rfl (hb hby at_84) kt) ?_
    refine Go.st (S' := T13.setTop (mkF m 86 #[.val (.int p0), .val (.int p1), .val (.int p2), .val (.int p3), .val (.int (p0 &&& (2147483647 : Int32))), .val (.int (p1 &&& (2147483647 : Int32))), .val (.ref a1), .val (.ref a3), .val (.ref a7), .val (.int (1 : Int32)), .unset, .unset, .unset, .unset, .unset] [(.int (p2 &&& (3 : Int32))), (.long ((p0 &&& (2147483647 : Int32))).toInt64)])) (fun t kt => XS.iand X13.here hx rfl (hb hby at_85) rfl kt) ?_
    refine Go.st (S' := T13.setTop (mkF m 87 #[.val (.int p0), .val (.int p1), .val (.int p2), .val (.int p3), .val (.int (p0 &&& (2147483647 : Int32))), .val (.int (p1 &&& (2147483647 : Int32))), .val (.ref a1), .val (.ref a3), .val (.ref a7), .val (.int (1 : Int32)), .unset, .unset, .unset, .unset, .unset] [(.int (1 : Int32)), (.int (p2 &&& (3 : Int32))), (.long ((p0 &&& (2147483647 : Int32))).toInt64)])) (fun t kt => XS.iconst X13.here hx rfl (hb hby at_86) kt) ?_
    refine Go.st (S' := T13.setTop (mkF m 88 #[.val (.int p0), .val (.int p1), .val (.int p2), .val (.int p3), .val (.int (p0 &&& (2147483647 : Int32))), .val (.int (p1 &&& (2147483647 : Int32))), .val (.ref a1), .val (.ref a3), .val (.ref a7), .val (.int (1 : Int32)), .unset, .unset, .unset, .unset, .unset] [(.int ((p2 &&& (3 : Int32)) - (1 : Int32))), (.long ((p0 &&& (2147483647 : Int32))).toInt64)])) (fun t kt => XS.isub X13.here hx rfl (hb hby at_87) rfl kt) ?_
    refine Go.st (S' := T13.setTop (mkF m 89 #[.val (.int p0), .val (.int p1), .val (.int p2), .val (.int p3), .val (.int (p0 &&& (2147483647 : Int32))), .val (.int (p1 &&& (2147483647 : Int32))), .val (.ref a1), .val (.ref a3), .val (.ref a7), .val (.int (1 : Int32)), .unset, .unset, .unset, .unset, .unset] [(.long (((p2 &&& (3 : Int32)) - (1 : Int32))).toInt64), (.long ((p0 &&& (2147483647 : Int32))).toInt64)])) (fun t kt => XT.i2l X13.here hx rfl (hb hby at_88) rfl kt) ?_
    refine Go.st (S' := T13.setTop (mkF m 90 #[.val (.int p0), .val (.int p1), .val (.int p2), .val (.int p3), .val (.int (p0 &&& (2147483647 : Int32))), .val (.int (p1 &&& (2147483647 : Int32))), .val (.ref a1), .val (.ref a3), .val (.ref a7), .val (.int (1 : Int32)), .unset, .unset, .unset, .unset, .unset] [(.long (((p0 &&& (2147483647 : Int32))).toInt64 + (((p2 &&& (3 : Int32)) - (1 : Int32))).toInt64))])) (fun t kt => XT.ladd X13.here hx rfl (hb hby at_89) rfl kt) ?_
    refine Go.st (S' := T13.setTop (mkF m 92 #[.val (.int p0), .val (.int p1), .val (.int p2), .val (.int p3), .val (.int (p0 &&& (2147483647 : Int32))), .val (.int (p1 &&& (2147483647 : Int32))), .val (.ref a1), .val (.ref a3), .val (.ref a7), .val (.int (1 : Int32)), .val (.long (((p0 &&& (2147483647 : Int32))).toInt64 + (((p2 &&& (3 : Int32)) - (1 : Int32))).toInt64)), .second, .unset, .unset, .unset] [])) (fun t kt => XT.lstore X13.here hx rfl (hb hby at_90) rfl rfl kt) ?_
    refine Go.st (S' := T13.setTop (mkF m 93 #[.val (.int p0), .val (.int p1), .val (.int p2), .val (.int p3), .val (.int (p0 &&& (2147483647 : Int32))), .val (.int (p1 &&& (2147483647 : Int32))), .val (.ref a1), .val (.ref a3), .val (.ref a7), .val (.int (1 : Int32)), .val (.long (((p0 &&& (2147483647 : Int32))).toInt64 + (((p2 &&& (3 : Int32)) - (1 : Int32))).toInt64)), .second, .unset, .unset, .unset] [(.int (1 : Int32))])) (fun t kt => XS.iconst X13.here hx rfl (hb hby at_92) kt) ?_
    refine Go.st (S' := T13.setTop (mkF m 95 #[.val (.int p0), .val (.int p1), .val (.int p2), .val (.int p3), .val (.int (p0 &&& (2147483647 : Int32))), .val (.int (p1 &&& (2147483647 : Int32))), .val (.ref a1), .val (.ref a3), .val (.ref a7), .val (.int (1 : Int32)), .val (.long (((p0 &&& (2147483647 : Int32))).toInt64 + (((p2 &&& (3 : Int32)) - (1 : Int32))).toInt64)), .second, .val (.int (1 : Int32)), .unset, .unset] [])) (fun t kt => XS.istore X13.here hx rfl (hb hby at_93) rfl rfl kt) ?_
    refine Go.st (S' := T13.setTop (mkF m 97 #[.val (.int p0), .val (.int p1), .val (.int p2), .val (.int p3), .val (.int (p0 &&& (2147483647 : Int32))), .val (.int (p1 &&& (2147483647 : Int32))), .val (.ref a1), .val (.ref a3), .val (.ref a7), .val (.int (1 : Int32)), .val (.long (((p0 &&& (2147483647 : Int32))).toInt64 + (((p2 &&& (3 : Int32)) - (1 : Int32))).toInt64)), .second, .val (.int (1 : Int32)), .unset, .unset] [(.long (((p0 &&& (2147483647 : Int32))).toInt64 + (((p2 &&& (3 : Int32)) - (1 : Int32))).toInt64))])) (fun t kt => XT.lload X13.here hx rfl (hb hby at_95) rfl kt) ?_
    refine Go.st (S' := T13.setTop (mkF m 98 #[.val (.int p0), .val (.int p1), .val (.int p2), .val (.int p3), .val (.int (p0 &&& (2147483647 : Int32))), .val (.int (p1 &&& (2147483647 : Int32))), .val (.ref a1), .val (.ref a3), .val (.ref a7), .val (.int (1 : Int32)), .val (.long (((p0 &&& (2147483647 : Int32))).toInt64 + (((p2 &&& (3 : Int32)) - (1 : Int32))).toInt64)), .second, .val (.int (1 : Int32)), .unset, .unset] [(.long (0 : Int64)), (.long (((p0 &&& (2147483647 : Int32))).toInt64 + (((p2 &&& (3 : Int32)) - (1 : Int32))).toInt64))])) (fun t kt => XT.lconstV X13.here hx rfl (0 : Int64) (hb hby at_97) (by decide) kt) ?_
    refine Go.st (S' := T13.setTop (mkF m 99 #[.val (.int p0), .val (.int p1), .val (.int p2), .val (.int p3), .val (.int (p0 &&& (2147483647 : Int32))), .val (.int (p1 &&& (2147483647 : Int32))), .val (.ref a1), .val (.ref a3), .val (.ref a7), .val (.int (1 : Int32)), .val (.long (((p0 &&& (2147483647 : Int32))).toInt64 + (((p2 &&& (3 : Int32)) - (1 : Int32))).toInt64)), .second, .val (.int (1 : Int32)), .unset, .unset] [(.int (XT.cmpL (((p0 &&& (2147483647 : Int32))).toInt64 + (((p2 &&& (3 : Int32)) - (1 : Int32))).toInt64) (0 : Int64)))])) (fun t kt => XT.lcmp X13.here hx rfl (hb hby at_98) rfl kt) ?_
    by_cases hc99_15 : (((p0 &&& (2147483647 : Int32))).toInt64 + (((p2 &&& (3 : Int32)) - (1 : Int32))).toInt64) < (0 : Int64)
    · refine Go.st (S' := T13.setTop (mkF m 158 #[.val (.int p0), .val (.int p1), .val (.int p2), .val (.int p3), .val (.int (p0 &&& (2147483647 : Int32))), .val (.int (p1 &&& (2147483647 : Int32))), .val (.ref a1), .val (.ref a3), .val (.ref a7), .val (.int (1 : Int32)), .val (.long (((p0 &&& (2147483647 : Int32))).toInt64 + (((p2 &&& (3 : Int32)) - (1 : Int32))).toInt64)), .second, .val (.int (1 : Int32)), .unset, .unset] [])) (fun t kt => XS.ifYes X13.here hx rfl (pc0 := 99) (pc' := 158) rfl (hb hby at_99) rfl (XT.ll_lt_t hc99_15) (by decide) (by decide) kt) ?_
      refine Go.st (S' := T13.setTop (mkF m 160 #[.val (.int p0), .val (.int p1), .val (.int p2), .val (.int p3), .val (.int (p0 &&& (2147483647 : Int32))), .val (.int (p1 &&& (2147483647 : Int32))), .val (.ref a1), .val (.ref a3), .val (.ref a7), .val (.int (1 : Int32)), .val (.long (((p0 &&& (2147483647 : Int32))).toInt64 + (((p2 &&& (3 : Int32)) - (1 : Int32))).toInt64)), .second, .val (.int (1 : Int32)), .unset, .unset] [(.int (1 : Int32))])) (fun t kt => XS.iload X13.here hx rfl (hb hby at_158) rfl kt) ?_
      refine Go.st (S' := T13.setTop (mkF m 163 #[.val (.int p0), .val (.int p1), .val (.int p2), .val (.int p3), .val (.int (p0 &&& (2147483647 : Int32))), .val (.int (p1 &&& (2147483647 : Int32))), .val (.ref a1), .val (.ref a3), .val (.ref a7), .val (.int (1 : Int32)), .val (.long (((p0 &&& (2147483647 : Int32))).toInt64 + (((p2 &&& (3 : Int32)) - (1 : Int32))).toInt64)), .second, .val (.int (1 : Int32)), .unset, .unset] [])) (fun t kt => XS.ifNo X13.here hx rfl (hb hby at_160) rfl (XT.i0_eq_f (by decide)) kt) ?_
      refine Go.st (S' := T13.setTop (mkF m 165 #[.val (.int p0), .val (.int p1), .val (.int p2), .val (.int p3), .val (.int (p0 &&& (2147483647 : Int32))), .val (.int (p1 &&& (2147483647 : Int32))), .val (.ref a1), .val (.ref a3), .val (.ref a7), .val (.int (1 : Int32)), .val (.long (((p0 &&& (2147483647 : Int32))).toInt64 + (((p2 &&& (3 : Int32)) - (1 : Int32))).toInt64)), .second, .val (.int (1 : Int32)), .unset, .unset] [(.int (1 : Int32))])) (fun t kt => XS.iload X13.here hx rfl (hb hby at_163) rfl kt) ?_
      refine Go.st (S' := T13.setTop (mkF m 168 #[.val (.int p0), .val (.int p1), .val (.int p2), .val (.int p3), .val (.int (p0 &&& (2147483647 : Int32))), .val (.int (p1 &&& (2147483647 : Int32))), .val (.ref a1), .val (.ref a3), .val (.ref a7), .val (.int (1 : Int32)), .val (.long (((p0 &&& (2147483647 : Int32))).toInt64 + (((p2 &&& (3 : Int32)) - (1 : Int32))).toInt64)), .second, .val (.int (1 : Int32)), .unset, .unset] [])) (fun t kt => XS.ifNo X13.here hx rfl (hb hby at_165) rfl (XT.i0_eq_f (by decide)) kt) ?_
      refine Go.st (S' := T13.setTop (mkF m 169 #[.val (.int p0), .val (.int p1), .val (.int p2), .val (.int p3), .val (.int (p0 &&& (2147483647 : Int32))), .val (.int (p1 &&& (2147483647 : Int32))), .val (.ref a1), .val (.ref a3), .val (.ref a7), .val (.int (1 : Int32)), .val (.long (((p0 &&& (2147483647 : Int32))).toInt64 + (((p2 &&& (3 : Int32)) - (1 : Int32))).toInt64)), .second, .val (.int (1 : Int32)), .unset, .unset] [(.int (1 : Int32))])) (fun t kt => XS.iconst X13.here hx rfl (hb hby at_168) kt) ?_
      refine Go.st (S' := T13.setTop (mkF m 173 #[.val (.int p0), .val (.int p1), .val (.int p2), .val (.int p3), .val (.int (p0 &&& (2147483647 : Int32))), .val (.int (p1 &&& (2147483647 : Int32))), .val (.ref a1), .val (.ref a3), .val (.ref a7), .val (.int (1 : Int32)), .val (.long (((p0 &&& (2147483647 : Int32))).toInt64 + (((p2 &&& (3 : Int32)) - (1 : Int32))).toInt64)), .second, .val (.int (1 : Int32)), .unset, .unset] [(.int (1 : Int32))])) (fun t kt => XS.goto X13.here hx rfl (pc0 := 169) (pc' := 173) rfl (hb hby at_169) (by decide) (by decide) kt) ?_
      exact ret_b X13 hx hlk hret (hb hby at_173) (by decide) (by decide) (⟨rfl, N13⟩)
    · refine Go.st (S' := T13.setTop (mkF m 102 #[.val (.int p0), .val (.int p1), .val (.int p2), .val (.int p3), .val (.int (p0 &&& (2147483647 : Int32))), .val (.int (p1 &&& (2147483647 : Int32))), .val (.ref a1), .val (.ref a3), .val (.ref a7), .val (.int (1 : Int32)), .val (.long (((p0 &&& (2147483647 : Int32))).toInt64 + (((p2 &&& (3 : Int32)) - (1 : Int32))).toInt64)), .second, .val (.int (1 : Int32)), .unset, .unset] [])) (fun t kt => XS.ifNo X13.here hx rfl (hb hby at_99) rfl (XT.ll_lt_f hc99_15) kt) ?_
      refine Go.st (S' := T13.setTop (mkF m 104 #[.val (.int p0), .val (.int p1), .val (.int p2), .val (.int p3), .val (.int (p0 &&& (2147483647 : Int32))), .val (.int (p1 &&& (2147483647 : Int32))), .val (.ref a1), .val (.ref a3), .val (.ref a7), .val (.int (1 : Int32)), .val (.long (((p0 &&& (2147483647 : Int32))).toInt64 + (((p2 &&& (3 : Int32)) - (1 : Int32))).toInt64)), .second, .val (.int (1 : Int32)), .unset, .unset] [(.long (((p0 &&& (2147483647 : Int32))).toInt64 + (((p2 &&& (3 : Int32)) - (1 : Int32))).toInt64))])) (fun t kt => XT.lload X13.here hx rfl (hb hby at_102) rfl kt) ?_
      refine Go.st (S' := T13.setTop (mkF m 107 #[.val (.int p0), .val (.int p1), .val (.int p2), .val (.int p3), .val (.int (p0 &&& (2147483647 : Int32))), .val (.int (p1 &&& (2147483647 : Int32))), .val (.ref a1), .val (.ref a3), .val (.ref a7), .val (.int (1 : Int32)), .val (.long (((p0 &&& (2147483647 : Int32))).toInt64 + (((p2 &&& (3 : Int32)) - (1 : Int32))).toInt64)), .second, .val (.int (1 : Int32)), .unset, .unset] [(.long (2147483647 : Int64)), (.long (((p0 &&& (2147483647 : Int32))).toInt64 + (((p2 &&& (3 : Int32)) - (1 : Int32))).toInt64))])) (fun t kt => X13.ldc2J hx hown (mv hZ (hw _ (List.mem_of_getElem? (i := 54) rfl))) rfl (hb hby at_104) kt) ?_
      refine Go.st (S' := T13.setTop (mkF m 108 #[.val (.int p0), .val (.int p1), .val (.int p2), .val (.int p3), .val (.int (p0 &&& (2147483647 : Int32))), .val (.int (p1 &&& (2147483647 : Int32))), .val (.ref a1), .val (.ref a3), .val (.ref a7), .val (.int (1 : Int32)), .val (.long (((p0 &&& (2147483647 : Int32))).toInt64 + (((p2 &&& (3 : Int32)) - (1 : Int32))).toInt64)), .second, .val (.int (1 : Int32)), .unset, .unset] [(.int (XT.cmpL (((p0 &&& (2147483647 : Int32))).toInt64 + (((p2 &&& (3 : Int32)) - (1 : Int32))).toInt64) (2147483647 : Int64)))])) (fun t kt => XT.lcmp X13.here hx rfl (hb hby at_107) rfl kt) ?_
      by_cases hc108_16 : (2147483647 : Int64) < (((p0 &&& (2147483647 : Int32))).toInt64 + (((p2 &&& (3 : Int32)) - (1 : Int32))).toInt64)
      · refine Go.st (S' := T13.setTop (mkF m 158 #[.val (.int p0), .val (.int p1), .val (.int p2), .val (.int p3), .val (.int (p0 &&& (2147483647 : Int32))), .val (.int (p1 &&& (2147483647 : Int32))), .val (.ref a1), .val (.ref a3), .val (.ref a7), .val (.int (1 : Int32)), .val (.long (((p0 &&& (2147483647 : Int32))).toInt64 + (((p2 &&& (3 : Int32)) - (1 : Int32))).toInt64)), .second, .val (.int (1 : Int32)), .unset, .unset] [])) (fun t kt => XS.ifYes X13.here hx rfl (pc0 := 108) (pc' := 158) rfl (hb hby at_108) rfl (XT.ll_gt_t hc108_16) (by decide) (by decide) kt) ?_
        refine Go.st (S' := T13.setTop (mkF m 160 #[.val (.int p0), .val (.int p1), .val (.int p2), .val (.int p3), .val (.int (p0 &&& (2147483647 : Int32))), .val (.int (p1 &&& (2147483647 : Int32))), .val (.ref a1), .val (.ref a3), .val (.ref a7), .val (.int (1 : Int32)), .val (.long (((p0 &&& (2147483647 : Int32))).toInt64 + (((p2 &&& (3 : Int32)) - (1 : Int32))).toInt64)), .second, .val (.int (1 : Int32)), .unset, .unset] [(.int (1 : Int32))])) (fun t kt => XS.iload X13.here hx rfl (hb hby at_158) rfl kt) ?_
        refine Go.st (S' := T13.setTop (mkF m 163 #[.val (.int p0), .val (.int p1), .val (.int p2), .val (.int p3), .val (.int (p0 &&& (2147483647 : Int32))), .val (.int (p1 &&& (2147483647 : Int32))), .val (.ref a1), .val (.ref a3), .val (.ref a7), .val (.int (1 : Int32)), .val (.long (((p0 &&& (2147483647 : Int32))).toInt64 + (((p2 &&& (3 : Int32)) - (1 : Int32))).toInt64)), .second, .val (.int (1 : Int32)), .unset, .unset] [])) (fun t kt => XS.ifNo X13.here hx rfl (hb hby at_160) rfl (XT.i0_eq_f (by decide)) kt) ?_
        refine Go.st (S' := T13.setTop (mkF m 165 #[.val (.int p0), .val (.int p1), .val (.int p2), .val (.int p3), .val (.int (p0 &&& (2147483647 : Int32))), .val (.int (p1 &&& (2147483647 : Int32))), .val (.ref a1), .val (.ref a3), .val (.ref a7), .val (.int (1 : Int32)), .val (.long (((p0 &&& (2147483647 : Int32))).toInt64 + (((p2 &&& (3 : Int32)) - (1 : Int32))).toInt64)), .second, .val (.int (1 : Int32)), .unset, .unset] [(.int (1 : Int32))])) (fun t kt => XS.iload X13.here hx rfl (hb hby at_163) rfl kt) ?_
        refine Go.st (S' := T13.setTop (mkF m 168 #[.val (.int p0), .val (.int p1), .val (.int p2), .val (.int p3), .val (.int (p0 &&& (2147483647 : Int32))), .val (.int (p1 &&& (2147483647 : Int32))), .val (.ref a1), .val (.ref a3), .val (.ref a7), .val (.int (1 : Int32)), .val (.long (((p0 &&& (2147483647 : Int32))).toInt64 + (((p2 &&& (3 : Int32)) - (1 : Int32))).toInt64)), .second, .val (.int (1 : Int32)), .unset, .unset] [])) (fun t kt => XS.ifNo X13.here hx rfl (hb hby at_165) rfl (XT.i0_eq_f (by decide)) kt) ?_
        refine Go.st (S' := T13.setTop (mkF m 169 #[.val (.int p0), .val (.int p1), .val (.int p2), .val (.int p3), .val (.int (p0 &&& (2147483647 : Int32))), .val (.int (p1 &&& (2147483647 : Int32))), .val (.ref a1), .val (.ref a3), .val (.ref a7), .val (.int (1 : Int32)), .val (.long (((p0 &&& (2147483647 : Int32))).toInt64 + (((p2 &&& (3 : Int32)) - (1 : Int32))).toInt64)), .second, .val (.int (1 : Int32)), .unset, .unset] [(.int (1 : Int32))])) (fun t kt => XS.iconst X13.here hx rfl (hb hby at_168) kt) ?_
        refine Go.st (S' := T13.setTop (mkF m 173 #[.val (.int p0), .val (.int p1), .val (.int p2), .val (.int p3), .val (.int (p0 &&& (2147483647 : Int32))), .val (.int (p1 &&& (2147483647 : Int32))), .val (.ref a1), .val (.ref a3), .val (.ref a7), .val (.int (1 : Int32)), .val (.long (((p0 &&& (2147483647 : Int32))).toInt64 + (((p2 &&& (3 : Int32)) - (1 : Int32))).toInt64)), .second, .val (.int (1 : Int32)), .unset, .unset] [(.int (1 : Int32))])) (fun t kt => XS.goto X13.here hx rfl (pc0 := 169) (pc' := 173) rfl (hb hby at_169) (by decide) (by decide) kt) ?_
        exact ret_b X13 hx hlk hret (hb hby at_173) (by decide) (by decide) (⟨rfl, N13⟩)
      · refine Go.st (S' := T13.setTop (mkF m 111 #[.val (.int p0), .val (.int p1), .val (.int p2), .val (.int p3), .val (.int (p0 &&& (2147483647 : Int32))), .val (.int (p1 &&& (2147483647 : Int32))), .val (.ref a1), .val (.ref a3), .val (.ref a7), .val (.int (1 : Int32)), .val (.long (((p0 &&& (2147483647 : Int32))).toInt64 + (((p2 &&& (3 : Int32)) - (1 : Int32))).toInt64)), .second, .val (.int (1 : Int32)), .unset, .unset] [])) (fun t kt => XS.ifNo X13.here hx rfl (hb hby at_108) rfl (XT.ll_gt_f hc108_16) kt) ?_
        have hv := own_l2i hc99_15 hc108_16
        refine Go.st (S' := T13.setTop (mkF m 113 #[.val (.int p0), .val (.int p1), .val (.int p2), .val (.int p3), .val (.int (p0 &&& (2147483647 : Int32))), .val (.int (p1 &&& (2147483647 : Int32))), .val (.ref a1), .val (.ref a3), .val (.ref a7), .val (.int (1 : Int32)), .val (.long (((p0 &&& (2147483647 : Int32))).toInt64 + (((p2 &&& (3 : Int32)) - (1 : Int32))).toInt64)), .second, .val (.int (1 : Int32)), .unset, .unset] [(.long (((p0 &&& (2147483647 : Int32))).toInt64 + (((p2 &&& (3 : Int32)) - (1 : Int32))).toInt64))])) (fun t kt => XT.lload X13.here hx rfl (hb hby at_111) rfl kt) ?_
        refine Go.st (S' := T13.setTop (mkF m 114 #[.val (.int p0), .val (.int p1), .val (.int p2), .val (.int p3), .val (.int (p0 &&& (2147483647 : Int32))), .val (.int (p1 &&& (2147483647 : Int32))), .val (.ref a1), .val (.ref a3), .val (.ref a7), .val (.int (1 : Int32)), .val (.long (((p0 &&& (2147483647 : Int32))).toInt64 + (((p2 &&& (3 : Int32)) - (1 : Int32))).toInt64)), .second, .val (.int (1 : Int32)), .unset, .unset] [(.int ((((p0 &&& (2147483647 : Int32))).toInt64 + (((p2 &&& (3 : Int32)) - (1 : Int32))).toInt64)).toInt32)])) (fun t kt => XT.l2i X13.here hx rfl (hb hby at_113) rfl kt) ?_
        refine Go.st (S' := T13.setTop (mkF m 116 #[.val (.int p0), .val (.int p1), .val (.int p2), .val (.int p3), .val (.int (p0 &&& (2147483647 : Int32))), .val (.int (p1 &&& (2147483647 : Int32))), .val (.ref a1), .val (.ref a3), .val (.ref a7), .val (.int (1 : Int32)), .val (.long (((p0 &&& (2147483647 : Int32))).toInt64 + (((p2 &&& (3 : Int32)) - (1 : Int32))).toInt64)), .second, .val (.int (1 : Int32)), .val (.int ((((p0 &&& (2147483647 : Int32))).toInt64 + (((p2 &&& (3 : Int32)) - (1 : Int32))).toInt64)).toInt32), .unset] [])) (fun t kt => XS.istore X13.here hx rfl (hb hby at_114) rfl rfl kt) ?_
        obtain ⟨T17, h17, X17, e17, E17, A17, D17, -, st17⟩ := newO X13 hx hZ hown (hw _ (List.mem_of_getElem? (i := 31) rfl)) (hw _ (List.mem_of_getElem? (i := 32) rfl)) (hw _ (List.mem_of_getElem? (i := 33) rfl)) e13 (g := (mkF m 116 #[.val (.int p0), .val (.int p1), .val (.int p2), .val (.int p3), .val (.int (p0 &&& (2147483647 : Int32))), .val (.int (p1 &&& (2147483647 : Int32))), .val (.ref a1), .val (.ref a3), .val (.ref a7), .val (.int (1 : Int32)), .val (.long (((p0 &&& (2147483647 : Int32))).toInt64 + (((p2 &&& (3 : Int32)) - (1 : Int32))).toInt64)), .second, .val (.int (1 : Int32)), .val (.int ((((p0 &&& (2147483647 : Int32))).toInt64 + (((p2 &&& (3 : Int32)) - (1 : Int32))).toInt64)).toInt32), .unset] [])) rfl (hb hby at_116) (by decide) (by decide)
        obtain ⟨a17, g17⟩ : ∃ z, z = T9.heap.size := ⟨_, rfl⟩
        rw [← g17] at A17 D17 st17
        have Z17 : n0 ≤ h17.size := Nat.le_trans Z9 E17.1
        have f18 := (f10.keep K9')
        have f19 := (f11.keep K9' (ninS (Nat.ne_of_lt (by rw [g7]; exact f8.lt)) nin0))
        have f20 := (f12.keep K9' (ninS (Nat.ne_of_lt (by rw [g7]; exact f6_3.lt)) nin0))
        have F17_unit : Fld Z h17 a17 "com/example/seatwright/seatwright/engine/Bucket" "unit" "Ljava/lang/String;" .null := D17 (Or.inr (hw _ (List.mem_of_getElem? (i := 39) rfl))) (ty := (.object "java/lang/String")) (by decide)
        have F17_size : Fld Z h17 a17 "com/example/seatwright/seatwright/engine/Bucket" "size" "I" (.int (0 : Int32)) := D17 (Or.inr (hw _ (List.mem_of_getElem? (i := 41) rfl))) (ty := .int) (by decide)
        have F17_inUse : Fld Z h17 a17 "com/example/seatwright/seatwright/engine/Bucket" "inUse" "I" (.int (0 : Int32)) := D17 (Or.inl (hw _ (List.mem_of_getElem? (i := 43) rfl))) (ty := .int) (by decide)
        refine Go.st (S' := T17.setTop (mkF m 119 #[.val (.int p0), .val (.int p1), .val (.int p2), .val (.int p3), .val (.int (p0 &&& (2147483647 : Int32))), .val (.int (p1 &&& (2147483647 : Int32))), .val (.ref a1), .val (.ref a3), .val (.ref a7), .val (.int (1 : Int32)), .val (.long (((p0 &&& (2147483647 : Int32))).toInt64 + (((p2 &&& (3 : Int32)) - (1 : Int32))).toInt64)), .second, .val (.int (1 : Int32)), .val (.int ((((p0 &&& (2147483647 : Int32))).toInt64 + (((p2 &&& (3 : Int32)) - (1 : Int32))).toInt64)).toInt32), .unset] [(.ref a17)])) (fun t kt => st17 t kt) ?_
        refine Go.st (S' := T17.setTop (mkF m 120 #[.val (.int p0), .val (.int p1), .val (.int p2), .val (.int p3), .val (.int (p0 &&& (2147483647 : Int32))), .val (.int (p1 &&& (2147483647 : Int32))), .val (.ref a1), .val (.ref a3), .val (.ref a7), .val (.int (1 : Int32)), .val (.long (((p0 &&& (2147483647 : Int32))).toInt64 + (((p2 &&& (3 : Int32)) - (1 : Int32))).toInt64)), .second, .val (.int (1 : Int32)), .val (.int ((((p0 &&& (2147483647 : Int32))).toInt64 + (((p2 &&& (3 : Int32)) - (1 : Int32))).toInt64)).toInt32), .unset] [(.ref a17), (.ref a17)])) (fun t kt => XS.dup X17.here hx rfl (hb hby at_119) rfl rfl kt) ?_
        refine Go.st (S' := T17.setTop (mkF m 122 #[.val (.int p0), .val (.int p1), .val (.int p2), .val (.int p3), .val (.int (p0 &&& (2147483647 : Int32))), .val (.int (p1 &&& (2147483647 : Int32))), .val (.ref a1), .val (.ref a3), .val (.ref a7), .val (.int (1 : Int32)), .val (.long (((p0 &&& (2147483647 : Int32))).toInt64 + (((p2 &&& (3 : Int32)) - (1 : Int32))).toInt64)), .second, .val (.int (1 : Int32)), .val (.int ((((p0 &&& (2147483647 : Int32))).toInt64 + (((p2 &&& (3 : Int32)) - (1 : Int32))).toInt64)).toInt32), .unset] [(.ref a3), (.ref a17), (.ref a17)])) (fun t kt => XS.aload X17.here hx rfl (hb hby at_120) rfl rfl kt) ?_
        refine Go.st (S' := T17.setTop (mkF m 124 #[.val (.int p0), .val (.int p1), .val (.int p2), .val (.int p3), .val (.int (p0 &&& (2147483647 : Int32))), .val (.int (p1 &&& (2147483647 : Int32))), .val (.ref a1), .val (.ref a3), .val (.ref a7), .val (.int (1 : Int32)), .val (.long (((p0 &&& (2147483647 : Int32))).toInt64 + (((p2 &&& (3 : Int32)) - (1 : Int32))).toInt64)), .second, .val (.int (1 : Int32)), .val (.int ((((p0 &&& (2147483647 : Int32))).toInt64 + (((p2 &&& (3 : Int32)) - (1 : Int32))).toInt64)).toInt32), .unset] [(.int (p0 &&& (2147483647 : Int32))), (.ref a3), (.ref a17), (.ref a17)])) (fun t kt => XS.iload X17.here hx rfl (hb hby at_122) rfl kt) ?_
        refine Go.st (S' := T17.setTop (mkF m 126 #[.val (.int p0), .val (.int p1), .val (.int p2), .val (.int p3), .val (.int (p0 &&& (2147483647 : Int32))), .val (.int (p1 &&& (2147483647 : Int32))), .val (.ref a1), .val (.ref a3), .val (.ref a7), .val (.int (1 : Int32)), .val (.long (((p0 &&& (2147483647 : Int32))).toInt64 + (((p2 &&& (3 : Int32)) - (1 : Int32))).toInt64)), .second, .val (.int (1 : Int32)), .val (.int ((((p0 &&& (2147483647 : Int32))).toInt64 + (((p2 &&& (3 : Int32)) - (1 : Int32))).toInt64)).toInt32), .unset] [(.int ((((p0 &&& (2147483647 : Int32))).toInt64 + (((p2 &&& (3 : Int32)) - (1 : Int32))).toInt64)).toInt32), (.int (p0 &&& (2147483647 : Int32))), (.ref a3), (.ref a17), (.ref a17)])) (fun t kt => XS.iload X17.here hx rfl (hb hby at_124) rfl kt) ?_
        refine Go.init X17 hx hZ rfl hown (hw _ (List.mem_of_getElem? (i := 34) rfl)) (hw _ (List.mem_of_getElem? (i := 35) rfl)) (hw _ (List.mem_of_getElem? (i := 36) rfl)) (hw _ (List.mem_of_getElem? (i := 33) rfl)) (by decide) (b := a17) (argsL := [(.ref a3), (.int (p0 &&& (2147483647 : Int32))), (.int ((((p0 &&& (2147483647 : Int32))).toInt64 + (((p2 &&& (3 : Int32)) - (1 : Int32))).toInt64)).toInt32)]) (rest := [(.ref a17)]) (rm2 l Z a0 hw a17 a3 (p0 &&& (2147483647 : Int32)) ((((p0 &&& (2147483647 : Int32))).toInt64 + (((p2 &&& (3 : Int32)) - (1 : Int32))).toInt64)).toInt32 h17 n0 Z17 A17 (Nat.le_trans Z9 (Nat.le_of_eq g17.symm)) F17_unit F17_size F17_inUse) e17 rfl (by rw [hml]; rfl) pd__Ljava_lang_String_II_V rfl (hb hby at_126) 1 (Nat.le_refl _) (by decide) (by decide) (by decide) (by decide) ?_
        intro v21 T21 L21 X21 hQ21
        have f22 := (f18.ext E17)
        have f23 := (f9_0.ext E17)
        have f24 := (f19.ext E17)
        have f25 := (f20.ext E17)
        obtain ⟨hv21, N21', K21', f21_0, f21_1, f21_2⟩ := hQ21
        subst hv21
        have N21 := Fr.app N13 N21'
        have Z21 : n0 ≤ T21.heap.size := Nat.le_trans Z17 K21'.1
        have eh21 : T21.heap = T21.heap := rfl
        show Go pP eE below _ (T21.setTop (mkF m 129 #[.val (.int p0), .val (.int p1), .val (.int p2), .val (.int p3), .val (.int (p0 &&& (2147483647 : Int32))), .val (.int (p1 &&& (2147483647 : Int32))), .val (.ref a1), .val (.ref a3), .val (.ref a7), .val (.int (1 : Int32)), .val (.long (((p0 &&& (2147483647 : Int32))).toInt64 + (((p2 &&& (3 : Int32)) - (1 : Int32))).toInt64)), .second, .val (.int (1 : Int32)), .val (.int ((((p0 &&& (2147483647 : Int32))).toInt64 + (((p2 &&& (3 : Int32)) - (1 : Int32))).toInt64)).toInt32), .unset] [(.ref a17)]))
        refine Go.st (S' := T21.setTop (mkF m 131 #[.val (.int p0), .val (.int p1), .val (.int p2), .val (.int p3), .val (.int (p0 &&& (2147483647 : Int32))), .val (.int (p1 &&& (2147483647 : Int32))), .val (.ref a1), .val (.ref a3), .val (.ref a7), .val (.int (1 : Int32)), .val (.long (((p0 &&& (2147483647 : Int32))).toInt64 + (((p2 &&& (3 : Int32)) - (1 : Int32))).toInt64)), .second, .val (.int (1 : Int32)), .val (.int ((((p0 &&& (2147483647 : Int32))).toInt64 + (((p2 &&& (3 : Int32)) - (1 : Int32))).toInt64)).toInt32), .val (.ref a17)] [])) (fun t kt => XS.astore X21.here hx rfl (hb hby at_129) rfl rfl rfl kt) ?_
        refine Go.st (S' := T21.setTop (mkF m 133 #[.val (.int p0), .val (.int p1), .val (.int p2), .val (.int p3), .val (.int (p0 &&& (2147483647 : Int32))), .val (.int (p1 &&& (2147483647 : Int32))), .val (.ref a1), .val (.ref a3), .val (.ref a7), .val (.int (1 : Int32)), .val (.long (((p0 &&& (2147483647 : Int32))).toInt64 + (((p2 &&& (3 : Int32)) - (1 : Int32))).toInt64)), .second, .val (.int (1 : Int32)), .val (.int ((((p0 &&& (2147483647 : Int32))).toInt64 + (((p2 &&& (3 : Int32)) - (1 : Int32))).toInt64)).toInt32), .val (.ref a17)] [(.ref a17)])) (fun t kt => XS.aload X21.here hx rfl (hb hby at_131) rfl rfl kt) ?_
        refine Go.virt X21 hx hZ hown (hw _ (List.mem_of_getElem? (i := 44) rfl)) (hw _ (List.mem_of_getElem? (i := 45) rfl)) (notFace_of_selects (mvT (args := #[]) hZ (hw _ (List.mem_of_getElem? (i := 47) rfl)))) (hw _ (List.mem_of_getElem? (i := 47) rfl)) (hw _ (List.mem_of_getElem? (i := 46) rfl)) (hw _ (List.mem_of_getElem? (i := 48) rfl)) (hw _ (List.mem_of_getElem? (i := 33) rfl)) (by decide) (b := a17) (argsL := []) (rest := []) (rm4 l Z a0 hw a17 (p0 &&& (2147483647 : Int32)) ((((p0 &&& (2147483647 : Int32))).toInt64 + (((p2 &&& (3 : Int32)) - (1 : Int32))).toInt64)).toInt32 (if ((((p0 &&& (2147483647 : Int32))).toInt64 + (((p2 &&& (3 : Int32)) - (1 : Int32))).toInt64)).toInt32 < (p0 &&& (2147483647 : Int32)) then (0 : Int32) else 1) T21.heap n0 Z21 f21_0 f21_1 f21_2 (own_full (own_nn p0) hv)) eh21 f21_0 rfl (by rw [hml]; rfl) pd___Z rfl (hb hby at_133) 0 (Nat.le_refl _) (by decide) (by decide) (by decide) (by decide) ?_
        intro v26 T26 L26 X26 hQ26
        obtain ⟨hv26, N26', e26⟩ := hQ26
        subst hv26
        have N26 := Fr.app N21 N26'
        show Go pP eE below _ (T26.setTop (mkF m 136 #[.val (.int p0), .val (.int p1), .val (.int p2), .val (.int p3), .val (.int (p0 &&& (2147483647 : Int32))), .val (.int (p1 &&& (2147483647 : Int32))), .val (.ref a1), .val (.ref a3), .val (.ref a7), .val (.int (1 : Int32)), .val (.long (((p0 &&& (2147483647 : Int32))).toInt64 + (((p2 &&& (3 : Int32)) - (1 : Int32))).toInt64)), .second, .val (.int (1 : Int32)), .val (.int ((((p0 &&& (2147483647 : Int32))).toInt64 + (((p2 &&& (3 : Int32)) - (1 : Int32))).toInt64)).toInt32), .val (.ref a17)] [(.int (if ((((p0 &&& (2147483647 : Int32))).toInt64 + (((p2 &&& (3 : Int32)) - (1 : Int32))).toInt64)).toInt32 < (p0 &&& (2147483647 : Int32)) then (0 : Int32) else 1))]))
        refine Go.st (S' := T26.setTop (mkF m 138 #[.val (.int p0), .val (.int p1), .val (.int p2), .val (.int p3), .val (.int (p0 &&& (2147483647 : Int32))), .val (.int (p1 &&& (2147483647 : Int32))), .val (.ref a1), .val (.ref a3), .val (.ref a7), .val (.int (1 : Int32)), .val (.long (((p0 &&& (2147483647 : Int32))).toInt64 + (((p2 &&& (3 : Int32)) - (1 : Int32))).toInt64)), .second, .val (.int (1 : Int32)), .val (.int ((((p0 &&& (2147483647 : Int32))).toInt64 + (((p2 &&& (3 : Int32)) - (1 : Int32))).toInt64)).toInt32), .val (.ref a17)] [(.int ((((p0 &&& (2147483647 : Int32))).toInt64 + (((p2 &&& (3 : Int32)) - (1 : Int32))).toInt64)).toInt32), (.int (if ((((p0 &&& (2147483647 : Int32))).toInt64 + (((p2 &&& (3 : Int32)) - (1 : Int32))).toInt64)).toInt32 < (p0 &&& (2147483647 : Int32)) then (0 : Int32) else 1))])) (fun t kt => XS.iload X26.here hx rfl (hb hby at_136) rfl kt) ?_
        refine Go.st (S' := T26.setTop (mkF m 140 #[.val (.int p0), .val (.int p1), .val (.int p2), .val (.int p3), .val (.int (p0 &&& (2147483647 : Int32))), .val (.int (p1 &&& (2147483647 : Int32))), .val (.ref a1), .val (.ref a3), .val (.ref a7), .val (.int (1 : Int32)), .val (.long (((p0 &&& (2147483647 : Int32))).toInt64 + (((p2 &&& (3 : Int32)) - (1 : Int32))).toInt64)), .second, .val (.int (1 : Int32)), .val (.int ((((p0 &&& (2147483647 : Int32))).toInt64 + (((p2 &&& (3 : Int32)) - (1 : Int32))).toInt64)).toInt32), .val (.ref a17)] [(.int (p0 &&& (2147483647 : Int32))), (.int ((((p0 &&& (2147483647 : Int32))).toInt64 + (((p2 &&& (3 : Int32)) - (1 : Int32))).toInt64)).toInt32), (.int (if ((((p0 &&& (2147483647 : Int32))).toInt64 + (((p2 &&& (3 : Int32)) - (1 : Int32))).toInt64)).toInt32 < (p0 &&& (2147483647 : Int32)) then (0 : Int32) else 1))])) (fun t kt => XS.iload X26.here hx rfl (hb hby at_138) rfl kt) ?_
        by_cases hc140_27 : ((((p0 &&& (2147483647 : Int32))).toInt64 + (((p2 &&& (3 : Int32)) - (1 : Int32))).toInt64)).toInt32 < (p0 &&& (2147483647 : Int32))
        · refine Go.st (S' := T26.setTop (mkF m 147 #[.val (.int p0), .val (.int p1), .val (.int p2), .val (.int p3), .val (.int (p0 &&& (2147483647 : Int32))), .val (.int (p1 &&& (2147483647 : Int32))), .val (.ref a1), .val (.ref a3), .val (.ref a7), .val (.int (1 : Int32)), .val (.long (((p0 &&& (2147483647 : Int32))).toInt64 + (((p2 &&& (3 : Int32)) - (1 : Int32))).toInt64)), .second, .val (.int (1 : Int32)), .val (.int ((((p0 &&& (2147483647 : Int32))).toInt64 + (((p2 &&& (3 : Int32)) - (1 : Int32))).toInt64)).toInt32), .val (.ref a17)] [(.int (if ((((p0 &&& (2147483647 : Int32))).toInt64 + (((p2 &&& (3 : Int32)) - (1 : Int32))).toInt64)).toInt32 < (p0 &&& (2147483647 : Int32)) then (0 : Int32) else 1))])) (fun t kt => XS.icmpYes X26.here hx rfl (pc0 := 140) (pc' := 147) rfl (hb hby at_140) rfl (XT.ii_lt_t hc140_27) (by decide) (by decide) kt) ?_
          refine Go.st (S' := T26.setTop (mkF m 148 #[.val (.int p0), .val (.int p1), .val (.int p2), .val (.int p3), .val (.int (p0 &&& (2147483647 : Int32))), .val (.int (p1 &&& (2147483647 : Int32))), .val (.ref a1), .val (.ref a3), .val (.ref a7), .val (.int (1 : Int32)), .val (.long (((p0 &&& (2147483647 : Int32))).toInt64 + (((p2 &&& (3 : Int32)) - (1 : Int32))).toInt64)), .second, .val (.int (1 : Int32)), .val (.int ((((p0 &&& (2147483647 : Int32))).toInt64 + (((p2 &&& (3 : Int32)) - (1 : Int32))).toInt64)).toInt32), .val (.ref a17)] [(.int (0 : Int32)), (.int (if ((((p0 &&& (2147483647 : Int32))).toInt64 + (((p2 &&& (3 : Int32)) - (1 : Int32))).toInt64)).toInt32 < (p0 &&& (2147483647 : Int32)) then (0 : Int32) else 1))])) (fun t kt => XS.iconst X26.here hx rfl (hb hby at_147) kt) ?_
          refine Go.st (S' := T26.setTop (mkF m 151 #[.val (.int p0), .val (.int p1), .val (.int p2), .val (.int p3), .val (.int (p0 &&& (2147483647 : Int32))), .val (.int (p1 &&& (2147483647 : Int32))), .val (.ref a1), .val (.ref a3), .val (.ref a7), .val (.int (1 : Int32)), .val (.long (((p0 &&& (2147483647 : Int32))).toInt64 + (((p2 &&& (3 : Int32)) - (1 : Int32))).toInt64)), .second, .val (.int (1 : Int32)), .val (.int ((((p0 &&& (2147483647 : Int32))).toInt64 + (((p2 &&& (3 : Int32)) - (1 : Int32))).toInt64)).toInt32), .val (.ref a17)] [])) (fun t kt => XS.icmpNo X26.here hx rfl (hb hby at_148) rfl (XT.ii_ne_f (if_pos hc140_27)) kt) ?_
          refine Go.st (S' := T26.setTop (mkF m 152 #[.val (.int p0), .val (.int p1), .val (.int p2), .val (.int p3), .val (.int (p0 &&& (2147483647 : Int32))), .val (.int (p1 &&& (2147483647 : Int32))), .val (.ref a1), .val (.ref a3), .val (.ref a7), .val (.int (1 : Int32)), .val (.long (((p0 &&& (2147483647 : Int32))).toInt64 + (((p2 &&& (3 : Int32)) - (1 : Int32))).toInt64)), .second, .val (.int (1 : Int32)), .val (.int ((((p0 &&& (2147483647 : Int32))).toInt64 + (((p2 &&& (3 : Int32)) - (1 : Int32))).toInt64)).toInt32), .val (.ref a17)] [(.int (1 : Int32))])) (fun t kt => XS.iconst X26.here hx rfl (hb hby at_151) kt) ?_
          refine Go.st (S' := T26.setTop (mkF m 156 #[.val (.int p0), .val (.int p1), .val (.int p2), .val (.int p3), .val (.int (p0 &&& (2147483647 : Int32))), .val (.int (p1 &&& (2147483647 : Int32))), .val (.ref a1), .val (.ref a3), .val (.ref a7), .val (.int (1 : Int32)), .val (.long (((p0 &&& (2147483647 : Int32))).toInt64 + (((p2 &&& (3 : Int32)) - (1 : Int32))).toInt64)), .second, .val (.int (1 : Int32)), .val (.int ((((p0 &&& (2147483647 : Int32))).toInt64 + (((p2 &&& (3 : Int32)) - (1 : Int32))).toInt64)).toInt32), .val (.ref a17)] [(.int (1 : Int32))])) (fun t kt => XS.goto X26.here hx rfl (pc0 := 152) (pc' := 156) rfl (hb hby at_152) (by decide) (by decide) kt) ?_
          refine Go.st (S' := T26.setTop (mkF m 158 #[.val (.int p0), .val (.int p1), .val (.int p2), .val (.int p3), .val (.int (p0 &&& (2147483647 : Int32))), .val (.int (p1 &&& (2147483647 : Int32))), .val (.ref a1), .val (.ref a3), .val (.ref a7), .val (.int (1 : Int32)), .val (.long (((p0 &&& (2147483647 : Int32))).toInt64 + (((p2 &&& (3 : Int32)) - (1 : Int32))).toInt64)), .second, .val (.int (1 : Int32)), .val (.int ((((p0 &&& (2147483647 : Int32))).toInt64 + (((p2 &&& (3 : Int32)) - (1 : Int32))).toInt64)).toInt32), .val (.ref a17)] [])) (fun t kt => XS.istore X26.here hx rfl (hb hby at_156) rfl rfl kt) ?_
          refine Go.st (S' := T26.setTop (mkF m 160 #[.val (.int p0), .val (.int p1), .val (.int p2), .val (.int p3), .val (.int (p0 &&& (2147483647 : Int32))), .val (.int (p1 &&& (2147483647 : Int32))), .val (.ref a1), .val (.ref a3), .val (.ref a7), .val (.int (1 : Int32)), .val (.long (((p0 &&& (2147483647 : Int32))).toInt64 + (((p2 &&& (3 : Int32)) - (1 : Int32))).toInt64)), .second, .val (.int (1 : Int32)), .val (.int ((((p0 &&& (2147483647 : Int32))).toInt64 + (((p2 &&& (3 : Int32)) - (1 : Int32))).toInt64)).toInt32), .val (.ref a17)] [(.int (1 : Int32))])) (fun t kt => XS.iload X26.here hx rfl (hb hby at_158) rfl kt) ?_
          refine Go.st (S' := T26.setTop (mkF m 163 #[.val (.int p0), .val (.int p1), .val (.int p2), .val (.int p3), .val (.int (p0 &&& (2147483647 : Int32))), .val (.int (p1 &&& (2147483647 : Int32))), .val (.ref a1), .val (.ref a3), .val (.ref a7), .val (.int (1 : Int32)), .val (.long (((p0 &&& (2147483647 : Int32))).toInt64 + (((p2 &&& (3 : Int32)) - (1 : Int32))).toInt64)), .second, .val (.int (1 : Int32)), .val (.int ((((p0 &&& (2147483647 : Int32))).toInt64 + (((p2 &&& (3 : Int32)) - (1 : Int32))).toInt64)).toInt32), .val (.ref a17)] [])) (fun t kt => XS.ifNo X26.here hx rfl (hb hby at_160) rfl (XT.i0_eq_f (by decide)) kt) ?_
          refine Go.st (S' := T26.setTop (mkF m 165 #[.val (.int p0), .val (.int p1), .val (.int p2), .val (.int p3), .val (.int (p0 &&& (2147483647 : Int32))), .val (.int (p1 &&& (2147483647 : Int32))), .val (.ref a1), .val (.ref a3), .val (.ref a7), .val (.int (1 : Int32)), .val (.long (((p0 &&& (2147483647 : Int32))).toInt64 + (((p2 &&& (3 : Int32)) - (1 : Int32))).toInt64)), .second, .val (.int (1 : Int32)), .val (.int ((((p0 &&& (2147483647 : Int32))).toInt64 + (((p2 &&& (3 : Int32)) - (1 : Int32))).toInt64)).toInt32), .val (.ref a17)] [(.int (1 : Int32))])) (fun t kt => XS.iload X26.here hx rfl (hb hby at_163) rfl kt) ?_
          refine Go.st (S' := T26.setTop (mkF m 168 #[.val (.int p0), .val (.int p1), .val (.int p2), .val (.int p3), .val (.int (p0 &&& (2147483647 : Int32))), .val (.int (p1 &&& (2147483647 : Int32))), .val (.ref a1), .val (.ref a3), .val (.ref a7), .val (.int (1 : Int32)), .val (.long (((p0 &&& (2147483647 : Int32))).toInt64 + (((p2 &&& (3 : Int32)) - (1 : Int32))).toInt64)), .second, .val (.int (1 : Int32)), .val (.int ((((p0 &&& (2147483647 : Int32))).toInt64 + (((p2 &&& (3 : Int32)) - (1 : Int32))).toInt64)).toInt32), .val (.ref a17)] [])) (fun t kt => XS.ifNo X26.here hx rfl (hb hby at_165) rfl (XT.i0_eq_f (by decide)) kt) ?_
          refine Go.st (S' := T26.setTop (mkF m 169 #[.val (.int p0), .val (.int p1), .val (.int p2), .val (.int p3), .val (.int (p0 &&& (2147483647 : Int32))), .val (.int (p1 &&& (2147483647 : Int32))), .val (.ref a1), .val (.ref a3), .val (.ref a7), .val (.int (1 : Int32)), .val (.long (((p0 &&& (2147483647 : Int32))).toInt64 + (((p2 &&& (3 : Int32)) - (1 : Int32))).toInt64)), .second, .val (.int (1 : Int32)), .val (.int ((((p0 &&& (2147483647 : Int32))).toInt64 + (((p2 &&& (3 : Int32)) - (1 : Int32))).toInt64)).toInt32), .val (.ref a17)] [(.int (1 : Int32))])) (fun t kt => XS.iconst X26.here hx rfl (hb hby at_168) kt) ?_
          refine Go.st (S' := T26.setTop (mkF m 173 #[.val (.int p0), .val (.int p1), .val (.int p2), .val (.int p3), .val (.int (p0 &&& (2147483647 : Int32))), .val (.int (p1 &&& (2147483647 : Int32))), .val (.ref a1), .val (.ref a3), .val (.ref a7), .val (.int (1 : Int32)), .val (.long (((p0 &&& (2147483647 : Int32))).toInt64 + (((p2 &&& (3 : Int32)) - (1 : Int32))).toInt64)), .second, .val (.int (1 : Int32)), .val (.int ((((p0 &&& (2147483647 : Int32))).toInt64 + (((p2 &&& (3 : Int32)) - (1 : Int32))).toInt64)).toInt32), .val (.ref a17)] [(.int (1 : Int32))])) (fun t kt => XS.goto X26.here hx rfl (pc0 := 169) (pc' := 173) rfl (hb hby at_169) (by decide) (by decide) kt) ?_
          exact ret_b X26 hx hlk hret (hb hby at_173) (by decide) (by decide) (⟨rfl, N26⟩)
        · refine Go.st (S' := T26.setTop (mkF m 143 #[.val (.int p0), .val (.int p1), .val (.int p2), .val (.int p3), .val (.int (p0 &&& (2147483647 : Int32))), .val (.int (p1 &&& (2147483647 : Int32))), .val (.ref a1), .val (.ref a3), .val (.ref a7), .val (.int (1 : Int32)), .val (.long (((p0 &&& (2147483647 : Int32))).toInt64 + (((p2 &&& (3 : Int32)) - (1 : Int32))).toInt64)), .second, .val (.int (1 : Int32)), .val (.int ((((p0 &&& (2147483647 : Int32))).toInt64 + (((p2 &&& (3 : Int32)) - (1 : Int32))).toInt64)).toInt32), .val (.ref a17)] [(.int (if ((((p0 &&& (2147483647 : Int32))).toInt64 + (((p2 &&& (3 : Int32)) - (1 : Int32))).toInt64)).toInt32 < (p0 &&& (2147483647 : Int32)) then (0 : Int32) else 1))])) (fun t kt => XS.icmpNo X26.here hx rfl (hb hby at_140) rfl (XT.ii_lt_f hc140_27) kt) ?_
          refine Go.st (S' := T26.setTop (mkF m 144 #[.val (.int p0), .val (.int p1), .val (.int p2), .val (.int p3), .val (.int (p0 &&& (2147483647 : Int32))), .val (.int (p1 &&& (2147483647 : Int32))), .val (.ref a1), .val (.ref a3), .val (.ref a7), .val (.int (1 : Int32)), .val (.long (((p0 &&& (2147483647 : Int32))).toInt64 + (((p2 &&& (3 : Int32)) - (1 : Int32))).toInt64)), .second, .val (.int (1 : Int32)), .val (.int ((((p0 &&& (2147483647 : Int32))).toInt64 + (((p2 &&& (3 : Int32)) - (1 : Int32))).toInt64)).toInt32), .val (.ref a17)] [(.int (1 : Int32)), (.int (if ((((p0 &&& (2147483647 : Int32))).toInt64 + (((p2 &&& (3 : Int32)) - (1 : Int32))).toInt64)).toInt32 < (p0 &&& (2147483647 : Int32)) then (0 : Int32) else 1))])) (fun t kt => XS.iconst X26.here hx rfl (hb hby at_143) kt) ?_
          refine Go.st (S' := T26.setTop (mkF m 148 #[.val (.int p0), .val (.int p1), .val (.int p2), .val (.int p3), .val (.int (p0 &&& (2147483647 : Int32))), .val (.int (p1 &&& (2147483647 : Int32))), .val (.ref a1), .val (.ref a3), .val (.ref a7), .val (.int (1 : Int32)), .val (.long (((p0 &&& (2147483647 : Int32))).toInt64 + (((p2 &&& (3 : Int32)) - (1 : Int32))).toInt64)), .second, .val (.int (1 : Int32)), .val (.int ((((p0 &&& (2147483647 : Int32))).toInt64 + (((p2 &&& (3 : Int32)) - (1 : Int32))).toInt64)).toInt32), .val (.ref a17)] [(.int (1 : Int32)), (.int (if ((((p0 &&& (2147483647 : Int32))).toInt64 + (((p2 &&& (3 : Int32)) - (1 : Int32))).toInt64)).toInt32 < (p0 &&& (2147483647 : Int32)) then (0 : Int32) else 1))])) (fun t kt => XS.goto X26.here hx rfl (pc0 := 144) (pc' := 148) rfl (hb hby at_144) (by decide) (by decide) kt) ?_
          refine Go.st (S' := T26.setTop (mkF m 151 #[.val (.int p0), .val (.int p1), .val (.int p2), .val (.int p3), .val (.int (p0 &&& (2147483647 : Int32))), .val (.int (p1 &&& (2147483647 : Int32))), .val (.ref a1), .val (.ref a3), .val (.ref a7), .val (.int (1 : Int32)), .val (.long (((p0 &&& (2147483647 : Int32))).toInt64 + (((p2 &&& (3 : Int32)) - (1 : Int32))).toInt64)), .second, .val (.int (1 : Int32)), .val (.int ((((p0 &&& (2147483647 : Int32))).toInt64 + (((p2 &&& (3 : Int32)) - (1 : Int32))).toInt64)).toInt32), .val (.ref a17)] [])) (fun t kt => XS.icmpNo X26.here hx rfl (hb hby at_148) rfl (XT.ii_ne_f (if_neg hc140_27)) kt) ?_
          refine Go.st (S' := T26.setTop (mkF m 152 #[.val (.int p0), .val (.int p1), .val (.int p2), .val (.int p3), .val (.int (p0 &&& (2147483647 : Int32))), .val (.int (p1 &&& (2147483647 : Int32))), .val (.ref a1), .val (.ref a3), .val (.ref a7), .val (.int (1 : Int32)), .val (.long (((p0 &&& (2147483647 : Int32))).toInt64 + (((p2 &&& (3 : Int32)) - (1 : Int32))).toInt64)), .second, .val (.int (1 : Int32)), .val (.int ((((p0 &&& (2147483647 : Int32))).toInt64 + (((p2 &&& (3 : Int32)) - (1 : Int32))).toInt64)).toInt32), .val (.ref a17)] [(.int (1 : Int32))])) (fun t kt => XS.iconst X26.here hx rfl (hb hby at_151) kt) ?_
          refine Go.st (S' := T26.setTop (mkF m 156 #[.val (.int p0), .val (.int p1), .val (.int p2), .val (.int p3), .val (.int (p0 &&& (2147483647 : Int32))), .val (.int (p1 &&& (2147483647 : Int32))), .val (.ref a1), .val (.ref a3), .val (.ref a7), .val (.int (1 : Int32)), .val (.long (((p0 &&& (2147483647 : Int32))).toInt64 + (((p2 &&& (3 : Int32)) - (1 : Int32))).toInt64)), .second, .val (.int (1 : Int32)), .val (.int ((((p0 &&& (2147483647 : Int32))).toInt64 + (((p2 &&& (3 : Int32)) - (1 : Int32))).toInt64)).toInt32), .val (.ref a17)] [(.int (1 : Int32))])) (fun t kt => XS.goto X26.here hx rfl (pc0 := 152) (pc' := 156) rfl (hb hby at_152) (by decide) (by decide) kt) ?_
          refine Go.st (S' := T26.setTop (mkF m 158 #[.val (.int p0), .val (.int p1), .val (.int p2), .val (.int p3), .val (.int (p0 &&& (2147483647 : Int32))), .val (.int (p1 &&& (2147483647 : Int32))), .val (.ref a1), .val (.ref a3), .val (.ref a7), .val (.int (1 : Int32)), .val (.long (((p0 &&& (2147483647 : Int32))).toInt64 + (((p2 &&& (3 : Int32)) - (1 : Int32))).toInt64)), .second, .val (.int (1 : Int32)), .val (.int ((((p0 &&& (2147483647 : Int32))).toInt64 + (((p2 &&& (3 : Int32)) - (1 : Int32))).toInt64)).toInt32), .val (.ref a17)] [])) (fun t kt => XS.istore X26.here hx rfl (hb hby at_156) rfl rfl kt) ?_
          refine Go.st (S' := T26.setTop (mkF m 160 #[.val (.int p0), .val (.int p1), .val (.int p2), .val (.int p3), .val (.int (p0 &&& (2147483647 : Int32))), .val (.int (p1 &&& (2147483647 : Int32))), .val (.ref a1), .val (.ref a3), .val (.ref a7), .val (.int (1 : Int32)), .val (.long (((p0 &&& (2147483647 : Int32))).toInt64 + (((p2 &&& (3 : Int32)) - (1 : Int32))).toInt64)), .second, .val (.int (1 : Int32)), .val (.int ((((p0 &&& (2147483647 : Int32))).toInt64 + (((p2 &&& (3 : Int32)) - (1 : Int32))).toInt64)).toInt32), .val (.ref a17)] [(.int (1 : Int32))])) (fun t kt => XS.iload X26.here hx rfl (hb hby at_158) rfl kt) ?_
          refine Go.st (S' := T26.setTop (mkF m 163 #[.val (.int p0), .val (.int p1), .val (.int p2), .val (.int p3), .val (.int (p0 &&& (2147483647 : Int32))), .val (.int (p1 &&& (2147483647 : Int32))), .val (.ref a1), .val (.ref a3), .val (.ref a7), .val (.int (1 : Int32)), .val (.long (((p0 &&& (2147483647 : Int32))).toInt64 + (((p2 &&& (3 : Int32)) - (1 : Int32))).toInt64)), .second, .val (.int (1 : Int32)), .val (.int ((((p0 &&& (2147483647 : Int32))).toInt64 + (((p2 &&& (3 : Int32)) - (1 : Int32))).toInt64)).toInt32), .val (.ref a17)] [])) (fun t kt => XS.ifNo X26.here hx rfl (hb hby at_160) rfl (XT.i0_eq_f (by decide)) kt) ?_
          refine Go.st (S' := T26.setTop (mkF m 165 #[.val (.int p0), .val (.int p1), .val (.int p2), .val (.int p3), .val (.int (p0 &&& (2147483647 : Int32))), .val (.int (p1 &&& (2147483647 : Int32))), .val (.ref a1), .val (.ref a3), .val (.ref a7), .val (.int (1 : Int32)), .val (.long (((p0 &&& (2147483647 : Int32))).toInt64 + (((p2 &&& (3 : Int32)) - (1 : Int32))).toInt64)), .second, .val (.int (1 : Int32)), .val (.int ((((p0 &&& (2147483647 : Int32))).toInt64 + (((p2 &&& (3 : Int32)) - (1 : Int32))).toInt64)).toInt32), .val (.ref a17)] [(.int (1 : Int32))])) (fun t kt => XS.iload X26.here hx rfl (hb hby at_163) rfl kt) ?_
          refine Go.st (S' := T26.setTop (mkF m 168 #[.val (.int p0), .val (.int p1), .val (.int p2), .val (.int p3), .val (.int (p0 &&& (2147483647 : Int32))), .val (.int (p1 &&& (2147483647 : Int32))), .val (.ref a1), .val (.ref a3), .val (.ref a7), .val (.int (1 : Int32)), .val (.long (((p0 &&& (2147483647 : Int32))).toInt64 + (((p2 &&& (3 : Int32)) - (1 : Int32))).toInt64)), .second, .val (.int (1 : Int32)), .val (.int ((((p0 &&& (2147483647 : Int32))).toInt64 + (((p2 &&& (3 : Int32)) - (1 : Int32))).toInt64)).toInt32), .val (.ref a17)] [])) (fun t kt => XS.ifNo X26.here hx rfl (hb hby at_165) rfl (XT.i0_eq_f (by decide)) kt) ?_
          refine Go.st (S' := T26.setTop (mkF m 169 #[.val (.int p0), .val (.int p1), .val (.int p2), .val (.int p3), .val (.int (p0 &&& (2147483647 : Int32))), .val (.int (p1 &&& (2147483647 : Int32))), .val (.ref a1), .val (.ref a3), .val (.ref a7), .val (.int (1 : Int32)), .val (.long (((p0 &&& (2147483647 : Int32))).toInt64 + (((p2 &&& (3 : Int32)) - (1 : Int32))).toInt64)), .second, .val (.int (1 : Int32)), .val (.int ((((p0 &&& (2147483647 : Int32))).toInt64 + (((p2 &&& (3 : Int32)) - (1 : Int32))).toInt64)).toInt32), .val (.ref a17)] [(.int (1 : Int32))])) (fun t kt => XS.iconst X26.here hx rfl (hb hby at_168) kt) ?_
          refine Go.st (S' := T26.setTop (mkF m 173 #[.val (.int p0), .val (.int p1), .val (.int p2), .val (.int p3), .val (.int (p0 &&& (2147483647 : Int32))), .val (.int (p1 &&& (2147483647 : Int32))), .val (.ref a1), .val (.ref a3), .val (.ref a7), .val (.int (1 : Int32)), .val (.long (((p0 &&& (2147483647 : Int32))).toInt64 + (((p2 &&& (3 : Int32)) - (1 : Int32))).toInt64)), .second, .val (.int (1 : Int32)), .val (.int ((((p0 &&& (2147483647 : Int32))).toInt64 + (((p2 &&& (3 : Int32)) - (1 : Int32))).toInt64)).toInt32), .val (.ref a17)] [(.int (1 : Int32))])) (fun t kt => XS.goto X26.here hx rfl (pc0 := 169) (pc' := 173) rfl (hb hby at_169) (by decide) (by decide) kt) ?_
          exact ret_b X26 hx hlk hret (hb hby at_173) (by decide) (by decide) (⟨rfl, N26⟩)
  · refine Go.st (S' := T13.setTop (mkF m 65 #[.val (.int p0), .val (.int p1), .val (.int p2), .val (.int p3), .val (.int (p0 &&& (2147483647 : Int32))), .val (.int (p1 &&& (2147483647 : Int32))), .val (.ref a1), .val (.ref a3), .val (.ref a7), .unset, .unset, .unset, .unset, .unset, .unset] [(.int (if (p1 &&& (2147483647 : Int32)) < (p0 &&& (2147483647 : Int32)) then (0 : Int32) else 1))])) (fun t kt => XS.icmpNo X13.here hx rfl (hb hby at_62) rfl (XT.ii_lt_f hc62_14) kt) ?_
    refine Go.st (S' := T13.setTop (mkF m 66 #[.val (.int p0), .val (.int p1), .val (.int p2), .val (.int p3), .val (.int (p0 &&& (2147483647 : Int32))), .val (.int (p1 &&& (2147483647 : Int32))), .val (.ref a1), .val (.ref a3), .val (.ref a7), .unset, .unset, .unset, .unset, .unset, .unset] [(.int (1 : Int32)), (.int (if (p1 &&& (2147483647 : Int32)) < (p0 &&& (2147483647 : Int32)) then (0 : Int32) else 1))])) (fun t kt => XS.iconst X13.here hx rfl (hb hby at_65) kt) ?_
    refine Go.st (S' := T13.setTop (mkF m 70 #[.val (.int p0), .val (.int p1), .val (.int p2), .val (.int p3), .val (.int (p0 &&& (2147483647 : Int32))), .val (.int (p1 &&& (2147483647 : Int32))), .val (.ref a1), .val (.ref a3), .val (.ref a7), .unset, .unset, .unset, .unset, .unset, .unset] [(.int (1 : Int32)), (.int (if (p1 &&& (2147483647 : Int32)) < (p0 &&& (2147483647 : Int32)) then (0 : Int32) else 1))])) (fun t kt => XS.goto X13.here hx rfl (pc0 := 66) (pc' := 70) rfl (hb hby at_66) (by decide) (by decide) kt) ?_
    refine Go.st (S' := T13.setTop (mkF m 73 #[.val (.int p0), .val (.int p1), .val (.int p2), .val (.int p3), .val (.int (p0 &&& (2147483647 : Int32))), .val (.int (p1 &&& (2147483647 : Int32))), .val (.ref a1), .val (.ref a3), .val (.ref a7), .unset, .unset, .unset, .unset, .unset, .unset] [])) (fun t kt => XS.icmpNo X13.here hx rfl (hb hby at_70) rfl (XT.ii_ne_f (if_neg hc62_14)) kt) ?_
    refine Go.st (S' := T13.setTop (mkF m 74 #[.val (.int p0), .val (.int p1), .val (.int p2), .val (.int p3), .val (.int (p0 &&& (2147483647 : Int32))), .val (.int (p1 &&& (2147483647 : Int32))), .val (.ref a1), .val (.ref a3), .val (.ref a7), .unset, .unset, .unset, .unset, .unset, .unset] [(.int (1 : Int32))])) (fun t kt => XS.iconst X13.here hx rfl (hb hby at_73) kt) ?_
    refine Go.st (S' := T13.setTop (mkF m 78 #[.val (.int p0), .val (.int p1), .val (.int p2), .val (.int p3), .val (.int (p0 &&& (2147483647 : Int32))), .val (.int (p1 &&& (2147483647 : Int32))), .val (.ref a1), .val (.ref a3), .val (.ref a7), .unset, .unset, .unset, .unset, .unset, .unset] [(.int (1 : Int32))])) (fun t kt => XS.goto X13.here hx rfl (pc0 := 74) (pc' := 78) rfl (hb hby at_74) (by decide) (by decide) kt) ?_
    refine Go.st (S' := T13.setTop (mkF m 80 #[.val (.int p0), .val (.int p1), .val (.int p2), .val (.int p3), .val (.int (p0 &&& (2147483647 : Int32))), .val (.int (p1 &&& (2147483647 : Int32))), .val (.ref a1), .val (.ref a3), .val (.ref a7), .val (.int (1 : Int32)), .unset, .unset, .unset, .unset, .unset] [])) (fun t kt => XS.istore X13.here hx rfl (hb hby at_78) rfl rfl kt) ?_
    refine Go.st (S' := T13.setTop (mkF m 82 #[.val (.int p0), .val (.int p1), .val (.int p2), .val (.int p3), .val (.int (p0 &&& (2147483647 : Int32))), .val (.int (p1 &&& (2147483647 : Int32))), .val (.ref a1), .val (.ref a3), .val (.ref a7), .val (.int (1 : Int32)), .unset, .unset, .unset, .unset, .unset] [(.int (p0 &&& (2147483647 : Int32)))])) (fun t kt => XS.iload X13.here hx rfl (hb hby at_80) rfl kt) ?_
    refine Go.st (S' := T13.setTop (mkF m 83 #[.val (.int p0), .val (.int p1), .val (.int p2), .val (.int p3), .val (.int (p0 &&& (2147483647 : Int32))), .val (.int (p1 &&& (2147483647 : Int32))), .val (.ref a1), .val (.ref a3), .val (.ref a7), .val (.int (1 : Int32)), .unset, .unset, .unset, .unset, .unset] [(.long ((p0 &&& (2147483647 : Int32))).toInt64)])) (fun t kt => XT.i2l X13.here hx rfl (hb hby at_82) rfl kt) ?_
    refine Go.st (S' := T13.setTop (mkF m 84 #[.val (.int p0), .val (.int p1), .val (.int p2), .val (.int p3), .val (.int (p0 &&& (2147483647 : Int32))), .val (.int (p1 &&& (2147483647 : Int32))), .val (.ref a1), .val (.ref a3), .val (.ref a7), .val (.int (1 : Int32)), .unset, .unset, .unset, .unset, .unset] [(.int p2), (.long ((p0 &&& (2147483647 : Int32))).toInt64)])) (fun t kt => XS.iloadN X13.here hx rfl (hb hby at_83) rfl kt) ?_
    refine Go.st (S' := T13.setTop (mkF m 85 #[.val (.int p0), .val (.int p1), .val (.int p2), .val (.int p3), .val (.int (p0 &&& (2147483647 : Int32))), .val (.int (p1 &&& (2147483647 : Int32))), .val (.ref a1), .val (.ref a3), .val (.ref a7), .val (.int (1 : Int32)), .unset, .unset, .unset, .unset, .unset] [(.int (3 : Int32)), (.int p2), (.long ((p0 &&& (2147483647 : Int32))).toInt64)])) (fun t kt => XS.iconst X13.here hx rfl (hb hby at_84) kt) ?_
    refine Go.st (S' := T13.setTop (mkF m 86 #[.val (.int p0), .val (.int p1), .val (.int p2), .val (.int p3), .val (.int (p0 &&& (2147483647 : Int32))), .val (.int (p1 &&& (2147483647 : Int32))), .val (.ref a1), .val (.ref a3), .val (.ref a7), .val (.int (1 : Int32)), .unset, .unset, .unset, .unset, .unset] [(.int (p2 &&& (3 : Int32))), (.long ((p0 &&& (2147483647 : Int32))).toInt64)])) (fun t kt => XS.iand X13.here hx rfl (hb hby at_85) rfl kt) ?_
    refine Go.st (S' := T13.setTop (mkF m 87 #[.val (.int p0), .val (.int p1), .val (.int p2), .val (.int p3), .val (.int (p0 &&& (2147483647 : Int32))), .val (.int (p1 &&& (2147483647 : Int32))), .val (.ref a1), .val (.ref a3), .val (.ref a7), .val (.int (1 : Int32)), .unset, .unset, .unset, .unset, .unset] [(.int (1 : Int32)), (.int (p2 &&& (3 : Int32))), (.long ((p0 &&& (2147483647 : Int32))).toInt64)])) (fun t kt => XS.iconst X13.here hx rfl (hb hby at_86) kt) ?_
    refine Go.st (S' := T13.setTop (mkF m 88 #[.val (.int p0), .val (.int p1), .val (.int p2), .val (.int p3), .val (.int (p0 &&& (2147483647 : Int32))), .val (.int (p1 &&& (2147483647 : Int32))), .val (.ref a1), .val (.ref a3), .val (.ref a7), .val (.int (1 : Int32)), .unset, .unset, .unset, .unset, .unset] [(.int ((p2 &&& (3 : Int32)) - (1 : Int32))), (.long ((p0 &&& (2147483647 : Int32))).toInt64)])) (fun t kt => XS.isub X13.here hx rfl (hb hby at_87) rfl kt) ?_
    refine Go.st (S' := T13.setTop (mkF m 89 #[.val (.int p0), .val (.int p1), .val (.int p2), .val (.int p3), .val (.int (p0 &&& (2147483647 : Int32))), .val (.int (p1 &&& (2147483647 : Int32))), .val (.ref a1), .val (.ref a3), .val (.ref a7), .val (.int (1 : Int32)), .unset, .unset, .unset, .unset, .unset] [(.long (((p2 &&& (3 : Int32)) - (1 : Int32))).toInt64), (.long ((p0 &&& (2147483647 : Int32))).toInt64)])) (fun t kt => XT.i2l X13.here hx rfl (hb hby at_88) rfl kt) ?_
    refine Go.st (S' := T13.setTop (mkF m 90 #[.val (.int p0), .val (.int p1), .val (.int p2), .val (.int p3), .val (.int (p0 &&& (2147483647 : Int32))), .val (.int (p1 &&& (2147483647 : Int32))), .val (.ref a1), .val (.ref a3), .val (.ref a7), .val (.int (1 : Int32)), .unset, .unset, .unset, .unset, .unset] [(.long (((p0 &&& (2147483647 : Int32))).toInt64 + (((p2 &&& (3 : Int32)) - (1 : Int32))).toInt64))])) (fun t kt => XT.ladd X13.here hx rfl (hb hby at_89) rfl kt) ?_
    refine Go.st (S' := T13.setTop (mkF m 92 #[.val (.int p0), .val (.int p1), .val (.int p2), .val (.int p3), .val (.int (p0 &&& (2147483647 : Int32))), .val (.int (p1 &&& (2147483647 : Int32))), .val (.ref a1), .val (.ref a3), .val (.ref a7), .val (.int (1 : Int32)), .val (.long (((p0 &&& (2147483647 : Int32))).toInt64 + (((p2 &&& (3 : Int32)) - (1 : Int32))).toInt64)), .second, .unset, .unset, .unset] [])) (fun t kt => XT.lstore X13.here hx rfl (hb hby at_90) rfl rfl kt) ?_
    refine Go.st (S' := T13.setTop (mkF m 93 #[.val (.int p0), .val (.int p1), .val (.int p2), .val (.int p3), .val (.int (p0 &&& (2147483647 : Int32))), .val (.int (p1 &&& (2147483647 : Int32))), .val (.ref a1), .val (.ref a3), .val (.ref a7), .val (.int (1 : Int32)), .val (.long (((p0 &&& (2147483647 : Int32))).toInt64 + (((p2 &&& (3 : Int32)) - (1 : Int32))).toInt64)), .second, .unset, .unset, .unset] [(.int (1 : Int32))])) (fun t kt => XS.iconst X13.here hx rfl (hb hby at_92) kt) ?_
    refine Go.st (S' := T13.setTop (mkF m 95 #[.val (.int p0), .val (.int p1), .val (.int p2), .val (.int p3), .val (.int (p0 &&& (2147483647 : Int32))), .val (.int (p1 &&& (2147483647 : Int32))), .val (.ref a1), .val (.ref a3), .val (.ref a7), .val (.int (1 : Int32)), .val (.long (((p0 &&& (2147483647 : Int32))).toInt64 + (((p2 &&& (3 : Int32)) - (1 : Int32))).toInt64)), .second, .val (.int (1 : Int32)), .unset, .unset] [])) (fun t kt => XS.istore X13.here hx rfl (hb hby at_93) rfl rfl kt) ?_
    refine Go.st (S' := T13.setTop (mkF m 97 #[.val (.int p0), .val (.int p1), .val (.int p2), .val (.int p3), .val (.int (p0 &&& (2147483647 : Int32))), .val (.int (p1 &&& (2147483647 : Int32))), .val (.ref a1), .val (.ref a3), .val (.ref a7), .val (.int (1 : Int32)), .val (.long (((p0 &&& (2147483647 : Int32))).toInt64 + (((p2 &&& (3 : Int32)) - (1 : Int32))).toInt64)), .second, .val (.int (1 : Int32)), .unset, .unset] [(.long (((p0 &&& (2147483647 : Int32))).toInt64 + (((p2 &&& (3 : Int32)) - (1 : Int32))).toInt64))])) (fun t kt => XT.lload X13.here hx rfl (hb hby at_95) rfl kt) ?_
    refine Go.st (S' := T13.setTop (mkF m 98 #[.val (.int p0), .val (.int p1), .val (.int p2), .val (.int p3), .val (.int (p0 &&& (2147483647 : Int32))), .val (.int (p1 &&& (2147483647 : Int32))), .val (.ref a1), .val (.ref a3), .val (.ref a7), .val (.int (1 : Int32)), .val (.long (((p0 &&& (2147483647 : Int32))).toInt64 + (((p2 &&& (3 : Int32)) - (1 : Int32))).toInt64)), .second, .val (.int (1 : Int32)), .unset, .unset] [(.long (0 : Int64)), (.long (((p0 &&& (2147483647 : Int32))).toInt64 + (((p2 &&& (3 : Int32)) - (1 : Int32))).toInt64))])) (fun t kt => XT.lconstV X13.here hx rfl (0 : Int64) (hb hby at_97) (by decide) kt) ?_
    refine Go.st (S' := T13.setTop (mkF m 99 #[.val (.int p0), .val (.int p1), .val (.int p2), .val (.int p3), .val (.int (p0 &&& (2147483647 : Int32))), .val (.int (p1 &&& (2147483647 : Int32))), .val (.ref a1), .val (.ref a3), .val (.ref a7), .val (.int (1 : Int32)), .val (.long (((p0 &&& (2147483647 : Int32))).toInt64 + (((p2 &&& (3 : Int32)) - (1 : Int32))).toInt64)), .second, .val (.int (1 : Int32)), .unset, .unset] [(.int (XT.cmpL (((p0 &&& (2147483647 : Int32))).toInt64 + (((p2 &&& (3 : Int32)) - (1 : Int32))).toInt64) (0 : Int64)))])) (fun t kt => XT.lcmp X13.here hx rfl (hb hby at_98) rfl kt) ?_
    by_cases hc99_28 : (((p0 &&& (2147483647 : Int32))).toInt64 + (((p2 &&& (3 : Int32)) - (1 : Int32))).toInt64) < (0 : Int64)
    · refine Go.st (S' := T13.setTop (mkF m 158 #[.val (.int p0), .val (.int p1), .val (.int p2), .val (.int p3), .val (.int (p0 &&& (2147483647 : Int32))), .val (.int (p1 &&& (2147483647 : Int32))), .val (.ref a1), .val (.ref a3), .val (.ref a7), .val (.int (1 : Int32)), .val (.long (((p0 &&& (2147483647 : Int32))).toInt64 + (((p2 &&& (3 : Int32)) - (1 : Int32))).toInt64)), .second, .val (.int (1 : Int32)), .unset, .unset] [])) (fun t kt => XS.ifYes X13.here hx rfl (pc0 := 99) (pc' := 158) rfl (hb hby at_99) rfl (XT.ll_lt_t hc99_28) (by decide) (by decide) kt) ?_
      refine Go.st (S' := T13.setTop (mkF m 160 #[.val (.int p0), .val (.int p1), .val (.int p2), .val (.int p3), .val (.int (p0 &&& (2147483647 : Int32))), .val (.int (p1 &&& (2147483647 : Int32))), .val (.ref a1), .val (.ref a3), .val (.ref a7), .val (.int (1 : Int32)), .val (.long (((p0 &&& (2147483647 : Int32))).toInt64 + (((p2 &&& (3 : Int32)) - (1 : Int32))).toInt64)), .second, .val (.int (1 : Int32)), .unset, .unset] [(.int (1 : Int32))])) (fun t kt => XS.iload X13.here hx rfl (hb hby at_158) rfl kt) ?_
      refine Go.st (S' := T13.setTop (mkF m 163 #[.val (.int p0), .val (.int p1), .val (.int p2), .val (.int p3), .val (.int (p0 &&& (2147483647 : Int32))), .val (.int (p1 &&& (2147483647 : Int32))), .val (.ref a1), .val (.ref a3), .val (.ref a7), .val (.int (1 : Int32)), .val (.long (((p0 &&& (2147483647 : Int32))).toInt64 + (((p2 &&& (3 : Int32)) - (1 : Int32))).toInt64)), .second, .val (.int (1 : Int32)), .unset, .unset] [])) (fun t kt => XS.ifNo X13.here hx rfl (hb hby at_160) rfl (XT.i0_eq_f (by decide)) kt) ?_
      refine Go.st (S' := T13.setTop (mkF m 165 #[.val (.int p0), .val (.int p1), .val (.int p2), .val (.int p3), .val (.int (p0 &&& (2147483647 : Int32))), .val (.int (p1 &&& (2147483647 : Int32))), .val (.ref a1), .val (.ref a3), .val (.ref a7), .val (.int (1 : Int32)), .val (.long (((p0 &&& (2147483647 : Int32))).toInt64 + (((p2 &&& (3 : Int32)) - (1 : Int32))).toInt64)), .second, .val (.int (1 : Int32)), .unset, .unset] [(.int (1 : Int32))])) (fun t kt => XS.iload X13.here hx rfl (hb hby at_163) rfl kt) ?_
      refine Go.st (S' := T13.setTop (mkF m 168 #[.val (.int p0), .val (.int p1), .val (.int p2), .val (.int p3), .val (.int (p0 &&& (2147483647 : Int32))), .val (.int (p1 &&& (2147483647 : Int32))), .val (.ref a1), .val (.ref a3), .val (.ref a7), .val (.int (1 : Int32)), .val (.long (((p0 &&& (2147483647 : Int32))).toInt64 + (((p2 &&& (3 : Int32)) - (1 : Int32))).toInt64)), .second, .val (.int (1 : Int32)), .unset, .unset] [])) (fun t kt => XS.ifNo X13.here hx rfl (hb hby at_165) rfl (XT.i0_eq_f (by decide)) kt) ?_
      refine Go.st (S' := T13.setTop (mkF m 169 #[.val (.int p0), .val (.int p1), .val (.int p2), .val (.int p3), .val (.int (p0 &&& (2147483647 : Int32))), .val (.int (p1 &&& (2147483647 : Int32))), .val (.ref a1), .val (.ref a3), .val (.ref a7), .val (.int (1 : Int32)), .val (.long (((p0 &&& (2147483647 : Int32))).toInt64 + (((p2 &&& (3 : Int32)) - (1 : Int32))).toInt64)), .second, .val (.int (1 : Int32)), .unset, .unset] [(.int (1 : Int32))])) (fun t kt => XS.iconst X13.here hx rfl (hb hby at_168) kt) ?_
      refine Go.st (S' := T13.setTop (mkF m 173 #[.val (.int p0), .val (.int p1), .val (.int p2), .val (.int p3), .val (.int (p0 &&& (2147483647 : Int32))), .val (.int (p1 &&& (2147483647 : Int32))), .val (.ref a1), .val (.ref a3), .val (.ref a7), .val (.int (1 : Int32)), .val (.long (((p0 &&& (2147483647 : Int32))).toInt64 + (((p2 &&& (3 : Int32)) - (1 : Int32))).toInt64)), .second, .val (.int (1 : Int32)), .unset, .unset] [(.int (1 : Int32))])) (fun t kt => XS.goto X13.here hx rfl (pc0 := 169) (pc' := 173) rfl (hb hby at_169) (by decide) (by decide) kt) ?_
      exact ret_b X13 hx hlk hret (hb hby at_173) (by decide) (by decide) (⟨rfl, N13⟩)
    · refine Go.st (S' := T13.setTop (mkF m 102 #[.val (.int p0), .val (.int p1), .val (.int p2), .val (.int p3), .val (.int (p0 &&& (2147483647 : Int32))), .val (.int (p1 &&& (2147483647 : Int32))), .val (.ref a1), .val (.ref a3), .val (.ref a7), .val (.int (1 : Int32)), .val (.long (((p0 &&& (2147483647 : Int32))).toInt64 + (((p2 &&& (3 : Int32)) - (1 : Int32))).toInt64)), .second, .val (.int (1 : Int32)), .unset, .unset] [])) (fun t kt => XS.ifNo X13.here hx rfl (hb hby at_99) rfl (XT.ll_lt_f hc99_28) kt) ?_
      refine Go.st (S' := T13.setTop (mkF m 104 #[.val (.int p0), .val (.int p1), .val (.int p2), .val (.int p3), .val (.int (p0 &&& (2147483647 : Int32))), .val (.int (p1 &&& (2147483647 : Int32))), .val (.ref a1), .val (.ref a3), .val (.ref a7), .val (.int (1 : Int32)), .val (.long (((p0 &&& (2147483647 : Int32))).toInt64 + (((p2 &&& (3 : Int32)) - (1 : Int32))).toInt64)), .second, .val (.int (1 : Int32)), .unset, .unset] [(.long (((p0 &&& (2147483647 : Int32))).toInt64 + (((p2 &&& (3 : Int32)) - (1 : Int32))).toInt64))])) (fun t kt => XT.lload X13.here hx rfl (hb hby at_102) rfl kt) ?_
      refine Go.st (S' := T13.setTop (mkF m 107 #[.val (.int p0), .val (.int p1), .val (.int p2), .val (.int p3), .val (.int (p0 &&& (2147483647 : Int32))), .val (.int (p1 &&& (2147483647 : Int32))), .val (.ref a1), .val (.ref a3), .val (.ref a7), .val (.int (1 : Int32)), .val (.long (((p0 &&& (2147483647 : Int32))).toInt64 + (((p2 &&& (3 : Int32)) - (1 : Int32))).toInt64)), .second, .val (.int (1 : Int32)), .unset, .unset] [(.long (2147483647 : Int64)), (.long (((p0 &&& (2147483647 : Int32))).toInt64 + (((p2 &&& (3 : Int32)) - (1 : Int32))).toInt64))])) (fun t kt => X13.ldc2J hx hown (mv hZ (hw _ (List.mem_of_getElem? (i := 54) rfl))) rfl (hb hby at_104) kt) ?_
      refine Go.st (S' := T13.setTop (mkF m 108 #[.val (.int p0), .val (.int p1), .val (.int p2), .val (.int p3), .val (.int (p0 &&& (2147483647 : Int32))), .val (.int (p1 &&& (2147483647 : Int32))), .val (.ref a1), .val (.ref a3), .val (.ref a7), .val (.int (1 : Int32)), .val (.long (((p0 &&& (2147483647 : Int32))).toInt64 + (((p2 &&& (3 : Int32)) - (1 : Int32))).toInt64)), .second, .val (.int (1 : Int32)), .unset, .unset] [(.int (XT.cmpL (((p0 &&& (2147483647 : Int32))).toInt64 + (((p2 &&& (3 : Int32)) - (1 : Int32))).toInt64) (2147483647 : Int64)))])) (fun t kt => XT.lcmp X13.here hx rfl (hb hby at_107) rfl kt) ?_
      by_cases hc108_29 : (2147483647 : Int64) < (((p0 &&& (2147483647 : Int32))).toInt64 + (((p2 &&& (3 : Int32)) - (1 : Int32))).toInt64)
      · refine Go.st (S' := T13.setTop (mkF m 158 #[.val (.int p0), .val (.int p1), .val (.int p2), .val (.int p3), .val (.int (p0 &&& (2147483647 : Int32))), .val (.int (p1 &&& (2147483647 : Int32))), .val (.ref a1), .val (.ref a3), .val (.ref a7), .val (.int (1 : Int32)), .val (.long (((p0 &&& (2147483647 : Int32))).toInt64 + (((p2 &&& (3 : Int32)) - (1 : Int32))).toInt64)), .second, .val (.int (1 : Int32)), .unset, .unset] [])) (fun t kt => XS.ifYes X13.here hx rfl (pc0 := 108) (pc' := 158) rfl (hb hby at_108) rfl (XT.ll_gt_t hc108_29) (by decide) (by decide) kt) ?_
        refine Go.st (S' := T13.setTop (mkF m 160 #[.val (.int p0), .val (.int p1), .val (.int p2), .val (.int p3), .val (.int (p0 &&& (2147483647 : Int32))), .val (.int (p1 &&& (2147483647 : Int32))), .val (.ref a1), .val (.ref a3), .val (.ref a7), .val (.int (1 : Int32)), .val (.long (((p0 &&& (2147483647 : Int32))).toInt64 + (((p2 &&& (3 : Int32)) - (1 : Int32))).toInt64)), .second, .val (.int (1 : Int32)), .unset, .unset] [(.int (1 : Int32))])) (fun t kt => XS.iload X13.here hx rfl (hb hby at_158) rfl kt) ?_
        refine Go.st (S' := T13.setTop (mkF m 163 #[.val (.int p0), .val (.int p1), .val (.int p2), .val (.int p3), .val (.int (p0 &&& (2147483647 : Int32))), .val (.int (p1 &&& (2147483647 : Int32))), .val (.ref a1), .val (.ref a3), .val (.ref a7), .val (.int (1 : Int32)), .val (.long (((p0 &&& (2147483647 : Int32))).toInt64 + (((p2 &&& (3 : Int32)) - (1 : Int32))).toInt64)), .second, .val (.int (1 : Int32)), .unset, .unset] [])) (fun t kt => XS.ifNo X13.here hx rfl (hb hby at_160) rfl (XT.i0_eq_f (by decide)) kt) ?_
        refine Go.st (S' := T13.setTop (mkF m 165 #[.val (.int p0), .val (.int p1), .val (.int p2), .val (.int p3), .val (.int (p0 &&& (2147483647 : Int32))), .val (.int (p1 &&& (2147483647 : Int32))), .val (.ref a1), .val (.ref a3), .val (.ref a7), .val (.int (1 : Int32)), .val (.long (((p0 &&& (2147483647 : Int32))).toInt64 + (((p2 &&& (3 : Int32)) - (1 : Int32))).toInt64)), .second, .val (.int (1 : Int32)), .unset, .unset] [(.int (1 : Int32))])) (fun t kt => XS.iload X13.here hx rfl (hb hby at_163) rfl kt) ?_
        refine Go.st (S' := T13.setTop (mkF m 168 #[.val (.int p0), .val (.int p1), .val (.int p2), .val (.int p3), .val (.int (p0 &&& (2147483647 : Int32))), .val (.int (p1 &&& (2147483647 : Int32))), .val (.ref a1), .val (.ref a3), .val (.ref a7), .val (.int (1 : Int32)), .val (.long (((p0 &&& (2147483647 : Int32))).toInt64 + (((p2 &&& (3 : Int32)) - (1 : Int32))).toInt64)), .second, .val (.int (1 : Int32)), .unset, .unset] [])) (fun t kt => XS.ifNo X13.here hx rfl (hb hby at_165) rfl (XT.i0_eq_f (by decide)) kt) ?_
        refine Go.st (S' := T13.setTop (mkF m 169 #[.val (.int p0), .val (.int p1), .val (.int p2), .val (.int p3), .val (.int (p0 &&& (2147483647 : Int32))), .val (.int (p1 &&& (2147483647 : Int32))), .val (.ref a1), .val (.ref a3), .val (.ref a7), .val (.int (1 : Int32)), .val (.long (((p0 &&& (2147483647 : Int32))).toInt64 + (((p2 &&& (3 : Int32)) - (1 : Int32))).toInt64)), .second, .val (.int (1 : Int32)), .unset, .unset] [(.int (1 : Int32))])) (fun t kt => XS.iconst X13.here hx rfl (hb hby at_168) kt) ?_
        refine Go.st (S' := T13.setTop (mkF m 173 #[.val (.int p0), .val (.int p1), .val (.int p2), .val (.int p3), .val (.int (p0 &&& (2147483647 : Int32))), .val (.int (p1 &&& (2147483647 : Int32))), .val (.ref a1), .val (.ref a3), .val (.ref a7), .val (.int (1 : Int32)), .val (.long (((p0 &&& (2147483647 : Int32))).toInt64 + (((p2 &&& (3 : Int32)) - (1 : Int32))).toInt64)), .second, .val (.int (1 : Int32)), .unset, .unset] [(.int (1 : Int32))])) (fun t kt => XS.goto X13.here hx rfl (pc0 := 169) (pc' := 173) rfl (hb hby at_169) (by decide) (by decide) kt) ?_
        exact ret_b X13 hx hlk hret (hb hby at_173) (by decide) (by decide) (⟨rfl, N13⟩)
      · refine Go.st (S' := T13.setTop (mkF m 111 #[.val (.int p0), .val (.int p1), .val (.int p2), .val (.int p3), .val (.int (p0 &&& (2147483647 : Int32))), .val (.int (p1 &&& (2147483647 : Int32))), .val (.ref a1), .val (.ref a3), .val (.ref a7), .val (.int (1 : Int32)), .val (.long (((p0 &&& (2147483647 : Int32))).toInt64 + (((p2 &&& (3 : Int32)) - (1 : Int32))).toInt64)), .second, .val (.int (1 : Int32)), .unset, .unset] [])) (fun t kt => XS.ifNo X13.here hx rfl (hb hby at_108) rfl (XT.ll_gt_f hc108_29) kt) ?_
        have hv := own_l2i hc99_28 hc108_29
        refine Go.st (S' := T13.setTop (mkF m 113 #[.val (.int p0), .val (.int p1), .val (.int p2), .val (.int p3), .val (.int (p0 &&& (2147483647 : Int32))), .val (.int (p1 &&& (2147483647 : Int32))), .val (.ref a1), .val (.ref a3), .val (.ref a7), .val (.int (1 : Int32)), .val (.long (((p0 &&& (2147483647 : Int32))).toInt64 + (((p2 &&& (3 : Int32)) - (1 : Int32))).toInt64)), .second, .val (.int (1 : Int32)), .unset, .unset] [(.long (((p0 &&& (2147483647 : Int32))).toInt64 + (((p2 &&& (3 : Int32)) - (1 : Int32))).toInt64))])) (fun t kt => XT.lload X13.here hx rfl (hb hby at_111) rfl kt) ?_
        refine Go.st (S' := T13.setTop (mkF m 114 #[.val (.int p0), .val (.int p1), .val (.int p2), .val (.int p3), .val (.int (p0 &&& (2147483647 : Int32))), .val (.int (p1 &&& (2147483647 : Int32))), .val (.ref a1), .val (.ref a3), .val (.ref a7), .val (.int (1 : Int32)), .val (.long (((p0 &&& (2147483647 : Int32))).toInt64 + (((p2 &&& (3 : Int32)) - (1 : Int32))).toInt64)), .second, .val (.int (1 : Int32)), .unset, .unset] [(.int ((((p0 &&& (2147483647 : Int32))).toInt64 + (((p2 &&& (3 : Int32)) - (1 : Int32))).toInt64)).toInt32)])) (fun t kt => XT.l2i X13.here hx rfl (hb hby at_113) rfl kt) ?_
        refine Go.st (S' := T13.setTop (mkF m 116 #[.val (.int p0), .val (.int p1), .val (.int p2), .val (.int p3), .val (.int (p0 &&& (2147483647 : Int32))), .val (.int (p1 &&& (2147483647 : Int32))), .val (.ref a1), .val (.ref a3), .val (.ref a7), .val (.int (1 : Int32)), .val (.long (((p0 &&& (2147483647 : Int32))).toInt64 + (((p2 &&& (3 : Int32)) - (1 : Int32))).toInt64)), .second, .val (.int (1 : Int32)), .val (.int ((((p0 &&& (2147483647 : Int32))).toInt64 + (((p2 &&& (3 : Int32)) - (1 : Int32))).toInt64)).toInt32), .unset] [])) (fun t kt => XS.istore X13.here hx rfl (hb hby at_114) rfl rfl kt) ?_
        obtain ⟨T30, h30, X30, e30, E30, A30, D30, -, st30⟩ := newO X13 hx hZ hown (hw _ (List.mem_of_getElem? (i := 31) rfl)) (hw _ (List.mem_of_getElem? (i := 32) rfl)) (hw _ (List.mem_of_getElem? (i := 33) rfl)) e13 (g := (mkF m 116 #[.val (.int p0), .val (.int p1), .val (.int p2), .val (.int p3), .val (.int (p0 &&& (2147483647 : Int32))), .val (.int (p1 &&& (2147483647 : Int32))), .val (.ref a1), .val (.ref a3), .val (.ref a7), .val (.int (1 : Int32)), .val (.long (((p0 &&& (2147483647 : Int32))).toInt64 + (((p2 &&& (3 : Int32)) - (1 : Int32))).toInt64)), .second, .val (.int (1 : Int32)), .val (.int ((((p0 &&& (2147483647 : Int32))).toInt64 + (((p2 &&& (3 : Int32)) - (1 : Int32))).toInt64)).toInt32), .unset] [])) rfl (hb hby at_116) (by decide) (by decide)
        obtain ⟨a30, g30⟩ : ∃ z, z = T9.heap.size := ⟨_, rfl⟩
        rw [← g30] at A30 D30 st30
        have Z30 : n0 ≤ h30.size := Nat.le_trans Z9 E30.1
        have f31 := (f10.keep K9')
        have f32 := (f11.keep K9' (ninS (Nat.ne_of_lt (by rw [g7]; exact f8.lt)) nin0))
        have f33 := (f12.keep K9' (ninS (Nat.ne_of_lt (by rw [g7]; exact f6_3.lt)) nin0))
        have F30_unit : Fld Z h30 a30 "com/example/seatwright/seatwright/engine/Bucket" "unit" "Ljava/lang/String;" .null := D30 (Or.inr (hw _ (List.mem_of_getElem? (i := 39) rfl))) (ty := (.object "java/lang/String")) (by decide)
        have F30_size : Fld Z h30 a30 "com/example/seatwright/seatwright/engine/Bucket" "size" "I" (.int (0 : Int32)) := D30 (Or.inr (hw _ (List.mem_of_getElem? (i := 41) rfl))) (ty := .int) (by decide)
        have F30_inUse : Fld Z h30 a30 "com/example/seatwright/seatwright/engine/Bucket" "inUse" "I" (.int (0 : Int32)) := D30 (Or.inl (hw _ (List.mem_of_getElem? (i := 43) rfl))) (ty := .int) (by decide)
        refine Go.st (S' := T30.setTop (mkF m 119 #[.val (.int p0), .val (.int p1), .val (.int p2), .val (.int p3), .val (.int (p0 &&& (2147483647 : Int32))), .val (.int (p1 &&& (2147483647 : Int32))), .val (.ref a1), .val (.ref a3), .val (.ref a7), .val (.int (1 : Int32)), .val (.long (((p0 &&& (2147483647 : Int32))).toInt64 + (((p2 &&& (3 : Int32)) - (1 : Int32))).toInt64)), .second, .val (.int (1 : Int32)), .val (.int ((((p0 &&& (2147483647 : Int32))).toInt64 + (((p2 &&& (3 : Int32)) - (1 : Int32))).toInt64)).toInt32), .unset] [(.ref a30)])) (fun t kt => st30 t kt) ?_
        refine Go.st (S' := T30.setTop (mkF m 120 #[.val (.int p0), .val (.int p1), .val (.int p2), .val (.int p3), .val (.int (p0 &&& (2147483647 : Int32))), .val (.int (p1 &&& (2147483647 : Int32))), .val (.ref a1), .val (.ref a3), .val (.ref a7), .val (.int (1 : Int32)), .val (.long (((p0 &&& (2147483647 : Int32))).toInt64 + (((p2 &&& (3 : Int32)) - (1 : Int32))).toInt64)), .second, .val (.int (1 : Int32)), .val (.int ((((p0 &&& (2147483647 : Int32))).toInt64 + (((p2 &&& (3 : Int32)) - (1 : Int32))).toInt64)).toInt32), .unset] [(.ref a30), (.ref a30)])) (fun t kt => XS.dup X30.here hx rfl (hb hby at_119) rfl rfl kt) ?_
        refine Go.st (S' := T30.setTop (mkF m 122 #[.val (.int p0), .val (.int p1), .val (.int p2), .val (.int p3), .val (.int (p0 &&& (2147483647 : Int32))), .val (.int (p1 &&& (2147483647 : Int32))), .val (.ref a1), .val (.ref a3), .val (.ref a7), .val (.int (1 : Int32)), .val (.long (((p0 &&& (2147483647 : Int32))).toInt64 + (((p2 &&& (3 : Int32)) - (1 : Int32))).toInt64)), .second, .val (.int (1 : Int32)), .val (.int ((((p0 &&& (2147483647 : Int32))).toInt64 + (((p2 &&& (3 : Int32)) - (1 : Int32))).toInt64)).toInt32), .unset] [(.ref a3), (.ref a30), (.ref a30)])) (fun t kt => XS.aload X30.here hx rfl (hb hby at_120) rfl rfl kt) ?_
        refine Go.st (S' := T30.setTop (mkF m 124 #[.val (.int p0), .val (.int p1), .val (.int p2), .val (.int p3), .val (.int (p0 &&& (2147483647 : Int32))), .val (.int (p1 &&& (2147483647 : Int32))), .val (.ref a1), .val (.ref a3), .val (.ref a7), .val (.int (1 : Int32)), .val (.long (((p0 &&& (2147483647 : Int32))).toInt64 + (((p2 &&& (3 : Int32)) - (1 : Int32))).toInt64)), .second, .val (.int (1 : Int32)), .val (.int ((((p0 &&& (2147483647 : Int32))).toInt64 + (((p2 &&& (3 : Int32)) - (1 : Int32))).toInt64)).toInt32), .unset] [(.int (p0 &&& (2147483647 : Int32))), (.ref a3), (.ref a30), (.ref a30)])) (fun t kt => XS.iload X30.here hx rfl (hb hby at_122) rfl kt) ?_
        refine Go.st (S' := T30.setTop (mkF m 126 #[.val (.int p0), .val (.int p1), .val (.int p2), .val (.int p3), .val (.int (p0 &&& (2147483647 : Int32))), .val (.int (p1 &&& (2147483647 : Int32))), .val (.ref a1), .val (.ref a3), .val (.ref a7), .val (.int (1 : Int32)), .val (.long (((p0 &&& (2147483647 : Int32))).toInt64 + (((p2 &&& (3 : Int32)) - (1 : Int32))).toInt64)), .second, .val (.int (1 : Int32)), .val (.int ((((p0 &&& (2147483647 : Int32))).toInt64 + (((p2 &&& (3 : Int32)) - (1 : Int32))).toInt64)).toInt32), .unset] [(.int ((((p0 &&& (2147483647 : Int32))).toInt64 + (((p2 &&& (3 : Int32)) - (1 : Int32))).toInt64)).toInt32), (.int (p0 &&& (2147483647 : Int32))), (.ref a3), (.ref a30), (.ref a30)])) (fun t kt => XS.iload X30.here hx rfl (hb hby at_124) rfl kt) ?_
        refine Go.init X30 hx hZ rfl hown (hw _ (List.mem_of_getElem? (i := 34) rfl)) (hw _ (List.mem_of_getElem? (i := 35) rfl)) (hw _ (List.mem_of_getElem? (i := 36) rfl)) (hw _ (List.mem_of_getElem? (i := 33) rfl)) (by decide) (b := a30) (argsL := [(.ref a3), (.int (p0 &&& (2147483647 : Int32))), (.int ((((p0 &&& (2147483647 : Int32))).toInt64 + (((p2 &&& (3 : Int32)) - (1 : Int32))).toInt64)).toInt32)]) (rest := [(.ref a30)]) (rm2 l Z a0 hw a30 a3 (p0 &&& (2147483647 : Int32)) ((((p0 &&& (2147483647 : Int32))).toInt64 + (((p2 &&& (3 : Int32)) - (1 : Int32))).toInt64)).toInt32 h30 n0 Z30 A30 (Nat.le_trans Z9 (Nat.le_of_eq g30.symm)) F30_unit F30_size F30_inUse) e30 rfl (by rw [hml]; rfl) pd__Ljava_lang_String_II_V rfl (hb hby at_126) 1 (Nat.le_refl _) (by decide) (by decide) (by decide) (by decide) ?_
        intro v34 T34 L34 X34 hQ34
        have f35 := (f31.ext E30)
        have f36 := (f9_0.ext E30)
        have f37 := (f32.ext E30)
        have f38 := (f33.ext E30)
        obtain ⟨hv34, N34', K34', f34_0, f34_1, f34_2⟩ := hQ34
        subst hv34
        have N34 := Fr.app N13 N34'
        have Z34 : n0 ≤ T34.heap.size := Nat.le_trans Z30 K34'.1
        have eh34 : T34.heap = T34.heap := rfl
        show Go pP eE below _ (T34.setTop (mkF m 129 #[.val (.int p0), .val (.int p1), .val (.int p2), .val (.int p3), .val (.int (p0 &&& (2147483647 : Int32))), .val (.int (p1 &&& (2147483647 : Int32))), .val (.ref a1), .val (.ref a3), .val (.ref a7), .val (.int (1 : Int32)), .val (.long (((p0 &&& (2147483647 : Int32))).toInt64 + (((p2 &&& (3 : Int32)) - (1 : Int32))).toInt64)), .second, .val (.int (1 : Int32)), .val (.int ((((p0 &&& (2147483647 : Int32))).toInt64 + (((p2 &&& (3 : Int32)) - (1 : Int32))).toInt64)).toInt32), .unset] [(.ref a30)]))
        refine Go.st (S' := T34.setTop (mkF m 131 #[.val (.int p0), .val (.int p1), .val (.int p2), .val (.int p3), .val (.int (p0 &&& (2147483647 : Int32))), .val (.int (p1 &&& (2147483647 : Int32))), .val (.ref a1), .val (.ref a3), .val (.ref a7), .val (.int (1 : Int32)), .val (.long (((p0 &&& (2147483647 : Int32))).toInt64 + (((p2 &&& (3 : Int32)) - (1 : Int32))).toInt64)), .second, .val (.int (1 : Int32)), .val (.int ((((p0 &&& (2147483647 : Int32))).toInt64 + (((p2 &&& (3 : Int32)) - (1 : Int32))).toInt64)).toInt32), .val (.ref a30)] [])) (fun t kt => XS.astore X34.here hx rfl (hb hby at_129) rfl rfl rfl kt) ?_
        refine Go.st (S' := T34.setTop (mkF m 133 #[.val (.int p0), .val (.int p1), .val (.int p2), .val (.int p3), .val (.int (p0 &&& (2147483647 : Int32))), .val (.int (p1 &&& (2147483647 : Int32))), .val (.ref a1), .val (.ref a3), .val (.ref a7), .val (.int (1 : Int32)), .val (.long (((p0 &&& (2147483647 : Int32))).toInt64 + (((p2 &&& (3 : Int32)) - (1 : Int32))).toInt64)), .second, .val (.int (1 : Int32)), .val (.int ((((p0 &&& (2147483647 : Int32))).toInt64 + (((p2 &&& (3 : Int32)) - (1 : Int32))).toInt64)).toInt32), .val (.ref a30)] [(.ref a30)])) (fun t kt => XS.aload X34.here hx rfl (hb hby at_131) rfl rfl kt) ?_
        refine Go.virt X34 hx hZ hown (hw _ (List.mem_of_getElem? (i := 44) rfl)) (hw _ (List.mem_of_getElem? (i := 45) rfl)) (notFace_of_selects (mvT (args := #[]) hZ (hw _ (List.mem_of_getElem? (i := 47) rfl)))) (hw _ (List.mem_of_getElem? (i := 47) rfl)) (hw _ (List.mem_of_getElem? (i := 46) rfl)) (hw _ (List.mem_of_getElem? (i := 48) rfl)) (hw _ (List.mem_of_getElem? (i := 33) rfl)) (by decide) (b := a30) (argsL := []) (rest := []) (rm4 l Z a0 hw a30 (p0 &&& (2147483647 : Int32)) ((((p0 &&& (2147483647 : Int32))).toInt64 + (((p2 &&& (3 : Int32)) - (1 : Int32))).toInt64)).toInt32 (if ((((p0 &&& (2147483647 : Int32))).toInt64 + (((p2 &&& (3 : Int32)) - (1 : Int32))).toInt64)).toInt32 < (p0 &&& (2147483647 : Int32)) then (0 : Int32) else 1) T34.heap n0 Z34 f34_0 f34_1 f34_2 (own_full (own_nn p0) hv)) eh34 f34_0 rfl (by rw [hml]; rfl) pd___Z rfl (hb hby at_133) 0 (Nat.le_refl _) (by decide) (by decide) (by decide) (by decide) ?_
        intro v39 T39 L39 X39 hQ39
        obtain ⟨hv39, N39', e39⟩ := hQ39
        subst hv39
        have N39 := Fr.app N34 N39'
        show Go pP eE below _ (T39.setTop (mkF m 136 #[.val (.int p0), .val (.int p1), .val (.int p2), .val (.int p3), .val (.int (p0 &&& (2147483647 : Int32))), .val (.int (p1 &&& (2147483647 : Int32))), .val (.ref a1), .val (.ref a3), .val (.ref a7), .val (.int (1 : Int32)), .val (.long (((p0 &&& (2147483647 : Int32))).toInt64 + (((p2 &&& (3 : Int32)) - (1 : Int32))).toInt64)), .second, .val (.int (1 : Int32)), .val (.int ((((p0 &&& (2147483647 : Int32))).toInt64 + (((p2 &&& (3 : Int32)) - (1 : Int32))).toInt64)).toInt32), .val (.ref a30)] [(.int (if ((((p0 &&& (2147483647 : Int32))).toInt64 + (((p2 &&& (3 : Int32)) - (1 : Int32))).toInt64)).toInt32 < (p0 &&& (2147483647 : Int32)) then (0 : Int32) else 1))]))
        refine Go.st (S' := T39.setTop (mkF m 138 #[.val (.int p0), .val (.int p1), .val (.int p2), .val (.int p3), .val (.int (p0 &&& (2147483647 : Int32))), .val (.int (p1 &&& (2147483647 : Int32))), .val (.ref a1), .val (.ref a3), .val (.ref a7), .val (.int (1 : Int32)), .val (.long (((p0 &&& (2147483647 : Int32))).toInt64 + (((p2 &&& (3 : Int32)) - (1 : Int32))).toInt64)), .second, .val (.int (1 : Int32)), .val (.int ((((p0 &&& (2147483647 : Int32))).toInt64 + (((p2 &&& (3 : Int32)) - (1 : Int32))).toInt64)).toInt32), .val (.ref a30)] [(.int ((((p0 &&& (2147483647 : Int32))).toInt64 + (((p2 &&& (3 : Int32)) - (1 : Int32))).toInt64)).toInt32), (.int (if ((((p0 &&& (2147483647 : Int32))).toInt64 + (((p2 &&& (3 : Int32)) - (1 : Int32))).toInt64)).toInt32 < (p0 &&& (2147483647 : Int32)) then (0 : Int32) else 1))])) (fun t kt => XS.iload X39.here hx rfl (hb hby at_136) rfl kt) ?_
        refine Go.st (S' := T39.setTop (mkF m 140 #[.val (.int p0), .val (.int p1), .val (.int p2), .val (.int p3), .val (.int (p0 &&& (2147483647 : Int32))), .val (.int (p1 &&& (2147483647 : Int32))), .val (.ref a1), .val (.ref a3), .val (.ref a7), .val (.int (1 : Int32)), .val (.long (((p0 &&& (2147483647 : Int32))).toInt64 + (((p2 &&& (3 : Int32)) - (1 : Int32))).toInt64)), .second, .val (.int (1 : Int32)), .val (.int ((((p0 &&& (2147483647 : Int32))).toInt64 + (((p2 &&& (3 : Int32)) - (1 : Int32))).toInt64)).toInt32), .val (.ref a30)] [(.int (p0 &&& (2147483647 : Int32))), (.int ((((p0 &&& (2147483647 : Int32))).toInt64 + (((p2 &&& (3 : Int32)) - (1 : Int32))).toInt64)).toInt32), (.int (if ((((p0 &&& (2147483647 : Int32))).toInt64 + (((p2 &&& (3 : Int32)) - (1 : Int32))).toInt64)).toInt32 < (p0 &&& (2147483647 : Int32)) then (0 : Int32) else 1))])) (fun t kt => XS.iload X39.here hx rfl (hb hby at_138) rfl kt) ?_
        by_cases hc140_40 : ((((p0 &&& (2147483647 : Int32))).toInt64 + (((p2 &&& (3 : Int32)) - (1 : Int32))).toInt64)).toInt32 < (p0 &&& (2147483647 : Int32))
        · refine Go.st (S' := T39.setTop (mkF m 147 #[.val (.int p0), .val (.int p1), .val (.int p2), .val (.int p3), .val (.int (p0 &&& (2147483647 : Int32))), .val (.int (p1 &&& (2147483647 : Int32))), .val (.ref a1), .val (.ref a3), .val (.ref a7), .val (.int (1 : Int32)), .val (.long (((p0 &&& (2147483647 : Int32))).toInt64 + (((p2 &&& (3 : Int32)) - (1 : Int32))).toInt64)), .second, .val (.int (1 : Int32)), .val (.int ((((p0 &&& (2147483647 : Int32))).toInt64 + (((p2 &&& (3 : Int32)) - (1 : Int32))).toInt64)).toInt32), .val (.ref a30)] [(.int (if ((((p0 &&& (2147483647 : Int32))).toInt64 + (((p2 &&& (3 : Int32)) - (1 : Int32))).toInt64)).toInt32 < (p0 &&& (2147483647 : Int32)) then (0 : Int32) else 1))])) (fun t kt => XS.icmpYes X39.here hx rfl (pc0 := 140) (pc' := 147) rfl (hb hby at_140) rfl (XT.ii_lt_t hc140_40) (by decide) (by decide) kt) ?_
          refine Go.st (S' := T39.setTop (mkF m 148 #[.val (.int p0), .val (.int p1), .val (.int p2), .val (.int p3), .val (.int (p0 &&& (2147483647 : Int32))), .val (.int (p1 &&& (2147483647 : Int32))), .val (.ref a1), .val (.ref a3), .val (.ref a7), .val (.int (1 : Int32)), .val (.long (((p0 &&& (2147483647 : Int32))).toInt64 + (((p2 &&& (3 : Int32)) - (1 : Int32))).toInt64)), .second, .val (.int (1 : Int32)), .val (.int ((((p0 &&& (2147483647 : Int32))).toInt64 + (((p2 &&& (3 : Int32)) - (1 : Int32))).toInt64)).toInt32), .val (.ref a30)] [(.int (0 : Int32)), (.int (if ((((p0 &&& (2147483647 : Int32))).toInt64 + (((p2 &&& (3 : Int32)) - (1 : Int32))).toInt64)).toInt32 < (p0 &&& (2147483647 : Int32)) then (0 : Int32) else 1))])) (fun t kt => XS.iconst X39.here hx rfl (hb hby at_147) kt) ?_
          refine Go.st (S' := T39.setTop (mkF m 151 #[.val (.int p0), .val (.int p1), .val (.int p2), .val (.int p3), .val (.int (p0 &&& (2147483647 : Int32))), .val (.int (p1 &&& (2147483647 : Int32))), .val (.ref a1), .val (.ref a3), .val (.ref a7), .val (.int (1 : Int32)), .val (.long (((p0 &&& (2147483647 : Int32))).toInt64 + (((p2 &&& (3 : Int32)) - (1 : Int32))).toInt64)), .second, .val (.int (1 : Int32)), .val (.int ((((p0 &&& (2147483647 : Int32))).toInt64 + (((p2 &&& (3 : Int32)) - (1 : Int32))).toInt64)).toInt32), .val (.ref a30)] [])) (fun t kt => XS.icmpNo X39.here hx rfl (hb hby at_148) rfl (XT.ii_ne_f (if_pos hc140_40)) kt) ?_
          refine Go.st (S' := T39.setTop (mkF m 152 #[.val (.int p0), .val (.int p1), .val (.int p2), .val (.int p3), .val (.int (p0 &&& (2147483647 : Int32))), .val (.int (p1 &&& (2147483647 : Int32))), .val (.ref a1), .val (.ref a3), .val (.ref a7), .val (.int (1 : Int32)), .val (.long (((p0 &&& (2147483647 : Int32))).toInt64 + (((p2 &&& (3 : Int32)) - (1 : Int32))).toInt64)), .second, .val (.int (1 : Int32)), .val (.int ((((p0 &&& (2147483647 : Int32))).toInt64 + (((p2 &&& (3 : Int32)) - (1 : Int32))).toInt64)).toInt32), .val (.ref a30)] [(.int (1 : Int32))])) (fun t kt => XS.iconst X39.here hx rfl (hb hby at_151) kt) ?_
          refine Go.st (S' := T39.setTop (mkF m 156 #[.val (.int p0), .val (.int p1), .val (.int p2), .val (.int p3), .val (.int (p0 &&& (2147483647 : Int32))), .val (.int (p1 &&& (2147483647 : Int32))), .val (.ref a1), .val (.ref a3), .val (.ref a7), .val (.int (1 : Int32)), .val (.long (((p0 &&& (2147483647 : Int32))).toInt64 + (((p2 &&& (3 : Int32)) - (1 : Int32))).toInt64)), .second, .val (.int (1 : Int32)), .val (.int ((((p0 &&& (2147483647 : Int32))).toInt64 + (((p2 &&& (3 : Int32)) - (1 : Int32))).toInt64)).toInt32), .val (.ref a30)] [(.int (1 : Int32))])) (fun t kt => XS.goto X39.here hx rfl (pc0 := 152) (pc' := 156) rfl (hb hby at_152) (by decide) (by decide) kt) ?_
          refine Go.st (S' := T39.setTop (mkF m 158 #[.val (.int p0), .val (.int p1), .val (.int p2), .val (.int p3), .val (.int (p0 &&& (2147483647 : Int32))), .val (.int (p1 &&& (2147483647 : Int32))), .val (.ref a1), .val (.ref a3), .val (.ref a7), .val (.int (1 : Int32)), .val (.long (((p0 &&& (2147483647 : Int32))).toInt64 + (((p2 &&& (3 : Int32)) - (1 : Int32))).toInt64)), .second, .val (.int (1 : Int32)), .val (.int ((((p0 &&& (2147483647 : Int32))).toInt64 + (((p2 &&& (3 : Int32)) - (1 : Int32))).toInt64)).toInt32), .val (.ref a30)] [])) (fun t kt => XS.istore X39.here hx rfl (hb hby at_156) rfl rfl kt) ?_
          refine Go.st (S' := T39.setTop (mkF m 160 #[.val (.int p0), .val (.int p1), .val (.int p2), .val (.int p3), .val (.int (p0 &&& (2147483647 : Int32))), .val (.int (p1 &&& (2147483647 : Int32))), .val (.ref a1), .val (.ref a3), .val (.ref a7), .val (.int (1 : Int32)), .val (.long (((p0 &&& (2147483647 : Int32))).toInt64 + (((p2 &&& (3 : Int32)) - (1 : Int32))).toInt64)), .second, .val (.int (1 : Int32)), .val (.int ((((p0 &&& (2147483647 : Int32))).toInt64 + (((p2 &&& (3 : Int32)) - (1 : Int32))).toInt64)).toInt32), .val (.ref a30)] [(.int (1 : Int32))])) (fun t kt => XS.iload X39.here hx rfl (hb hby at_158) rfl kt) ?_
          refine Go.st (S' := T39.setTop (mkF m 163 #[.val (.int p0), .val (.int p1), .val (.int p2), .val (.int p3), .val (.int (p0 &&& (2147483647 : Int32))), .val (.int (p1 &&& (2147483647 : Int32))), .val (.ref a1), .val (.ref a3), .val (.ref a7), .val (.int (1 : Int32)), .val (.long (((p0 &&& (2147483647 : Int32))).toInt64 + (((p2 &&& (3 : Int32)) - (1 : Int32))).toInt64)), .second, .val (.int (1 : Int32)), .val (.int ((((p0 &&& (2147483647 : Int32))).toInt64 + (((p2 &&& (3 : Int32)) - (1 : Int32))).toInt64)).toInt32), .val (.ref a30)] [])) (fun t kt => XS.ifNo X39.here hx rfl (hb hby at_160) rfl (XT.i0_eq_f (by decide)) kt) ?_
          refine Go.st (S' := T39.setTop (mkF m 165 #[.val (.int p0), .val (.int p1), .val (.int p2), .val (.int p3), .val (.int (p0 &&& (2147483647 : Int32))), .val (.int (p1 &&& (2147483647 : Int32))), .val (.ref a1), .val (.ref a3), .val (.ref a7), .val (.int (1 : Int32)), .val (.long (((p0 &&& (2147483647 : Int32))).toInt64 + (((p2 &&& (3 : Int32)) - (1 : Int32))).toInt64)), .second, .val (.int (1 : Int32)), .val (.int ((((p0 &&& (2147483647 : Int32))).toInt64 + (((p2 &&& (3 : Int32)) - (1 : Int32))).toInt64)).toInt32), .val (.ref a30)] [(.int (1 : Int32))])) (fun t kt => XS.iload X39.here hx rfl (hb hby at_163) rfl kt) ?_
          refine Go.st (S' := T39.setTop (mkF m 168 #[.val (.int p0), .val (.int p1), .val (.int p2), .val (.int p3), .val (.int (p0 &&& (2147483647 : Int32))), .val (.int (p1 &&& (2147483647 : Int32))), .val (.ref a1), .val (.ref a3), .val (.ref a7), .val (.int (1 : Int32)), .val (.long (((p0 &&& (2147483647 : Int32))).toInt64 + (((p2 &&& (3 : Int32)) - (1 : Int32))).toInt64)), .second, .val (.int (1 : Int32)), .val (.int ((((p0 &&& (2147483647 : Int32))).toInt64 + (((p2 &&& (3 : Int32)) - (1 : Int32))).toInt64)).toInt32), .val (.ref a30)] [])) (fun t kt => XS.ifNo X39.here hx rfl (hb hby at_165) rfl (XT.i0_eq_f (by decide)) kt) ?_
          refine Go.st (S' := T39.setTop (mkF m 169 #[.val (.int p0), .val (.int p1), .val (.int p2), .val (.int p3), .val (.int (p0 &&& (2147483647 : Int32))), .val (.int (p1 &&& (2147483647 : Int32))), .val (.ref a1), .val (.ref a3), .val (.ref a7), .val (.int (1 : Int32)), .val (.long (((p0 &&& (2147483647 : Int32))).toInt64 + (((p2 &&& (3 : Int32)) - (1 : Int32))).toInt64)), .second, .val (.int (1 : Int32)), .val (.int ((((p0 &&& (2147483647 : Int32))).toInt64 + (((p2 &&& (3 : Int32)) - (1 : Int32))).toInt64)).toInt32), .val (.ref a30)] [(.int (1 : Int32))])) (fun t kt => XS.iconst X39.here hx rfl (hb hby at_168) kt) ?_
          refine Go.st (S' := T39.setTop (mkF m 173 #[.val (.int p0), .val (.int p1), .val (.int p2), .val (.int p3), .val (.int (p0 &&& (2147483647 : Int32))), .val (.int (p1 &&& (2147483647 : Int32))), .val (.ref a1), .val (.ref a3), .val (.ref a7), .val (.int (1 : Int32)), .val (.long (((p0 &&& (2147483647 : Int32))).toInt64 + (((p2 &&& (3 : Int32)) - (1 : Int32))).toInt64)), .second, .val (.int (1 : Int32)), .val (.int ((((p0 &&& (2147483647 : Int32))).toInt64 + (((p2 &&& (3 : Int32)) - (1 : Int32))).toInt64)).toInt32), .val (.ref a30)] [(.int (1 : Int32))])) (fun t kt => XS.goto X39.here hx rfl (pc0 := 169) (pc' := 173) rfl (hb hby at_169) (by decide) (by decide) kt) ?_
          exact ret_b X39 hx hlk hret (hb hby at_173) (by decide) (by decide) (⟨rfl, N39⟩)
        · refine Go.st (S' := T39.setTop (mkF m 143 #[.val (.int p0), .val (.int p1), .val (.int p2), .val (.int p3), .val (.int (p0 &&& (2147483647 : Int32))), .val (.int (p1 &&& (2147483647 : Int32))), .val (.ref a1), .val (.ref a3), .val (.ref a7), .val (.int (1 : Int32)), .val (.long (((p0 &&& (2147483647 : Int32))).toInt64 + (((p2 &&& (3 : Int32)) - (1 : Int32))).toInt64)), .second, .val (.int (1 : Int32)), .val (.int ((((p0 &&& (2147483647 : Int32))).toInt64 + (((p2 &&& (3 : Int32)) - (1 : Int32))).toInt64)).toInt32), .val (.ref a30)] [(.int (if ((((p0 &&& (2147483647 : Int32))).toInt64 + (((p2 &&& (3 : Int32)) - (1 : Int32))).toInt64)).toInt32 < (p0 &&& (2147483647 : Int32)) then (0 : Int32) else 1))])) (fun t kt => XS.icmpNo X39.here hx rfl (hb hby at_140) rfl (XT.ii_lt_f hc140_40) kt) ?_
          refine Go.st (S' := T39.setTop (mkF m 144 #[.val (.int p0), .val (.int p1), .val (.int p2), .val (.int p3), .val (.int (p0 &&& (2147483647 : Int32))), .val (.int (p1 &&& (2147483647 : Int32))), .val (.ref a1), .val (.ref a3), .val (.ref a7), .val (.int (1 : Int32)), .val (.long (((p0 &&& (2147483647 : Int32))).toInt64 + (((p2 &&& (3 : Int32)) - (1 : Int32))).toInt64)), .second, .val (.int (1 : Int32)), .val (.int ((((p0 &&& (2147483647 : Int32))).toInt64 + (((p2 &&& (3 : Int32)) - (1 : Int32))).toInt64)).toInt32), .val (.ref a30)] [(.int (1 : Int32)), (.int (if ((((p0 &&& (2147483647 : Int32))).toInt64 + (((p2 &&& (3 : Int32)) - (1 : Int32))).toInt64)).toInt32 < (p0 &&& (2147483647 : Int32)) then (0 : Int32) else 1))])) (fun t kt => XS.iconst X39.here hx rfl (hb hby at_143) kt) ?_
          refine Go.st (S' := T39.setTop (mkF m 148 #[.val (.int p0), .val (.int p1), .val (.int p2), .val (.int p3), .val (.int (p0 &&& (2147483647 : Int32))), .val (.int (p1 &&& (2147483647 : Int32))), .val (.ref a1), .val (.ref a3), .val (.ref a7), .val (.int (1 : Int32)), .val (.long (((p0 &&& (2147483647 : Int32))).toInt64 + (((p2 &&& (3 : Int32)) - (1 : Int32))).toInt64)), .second, .val (.int (1 : Int32)), .val (.int ((((p0 &&& (2147483647 : Int32))).toInt64 + (((p2 &&& (3 : Int32)) - (1 : Int32))).toInt64)).toInt32), .val (.ref a30)] [(.int (1 : Int32)), (.int (if ((((p0 &&& (2147483647 : Int32))).toInt64 + (((p2 &&& (3 : Int32)) - (1 : Int32))).toInt64)).toInt32 < (p0 &&& (2147483647 : Int32)) then (0 : Int32) else 1))])) (fun t kt => XS.goto X39.here hx rfl (pc0 := 144) (pc' := 148) rfl (hb hby at_144) (by decide) (by decide) kt) ?_
          refine Go.st (S' := T39.setTop (mkF m 151 #[.val (.int p0), .val (.int p1), .val (.int p2), .val (.int p3), .val (.int (p0 &&& (2147483647 : Int32))), .val (.int (p1 &&& (2147483647 : Int32))), .val (.ref a1), .val (.ref a3), .val (.ref a7), .val (.int (1 : Int32)), .val (.long (((p0 &&& (2147483647 : Int32))).toInt64 + (((p2 &&& (3 : Int32)) - (1 : Int32))).toInt64)), .second, .val (.int (1 : Int32)), .val (.int ((((p0 &&& (2147483647 : Int32))).toInt64 + (((p2 &&& (3 : Int32)) - (1 : Int32))).toInt64)).toInt32), .val (.ref a30)] [])) (fun t kt => XS.icmpNo X39.here hx rfl (hb hby at_148) rfl (XT.ii_ne_f (if_neg hc140_40)) kt) ?_
          refine Go.st (S' := T39.setTop (mkF m 152 #[.val (.int p0), .val (.int p1), .val (.int p2), .val (.int p3), .val (.int (p0 &&& (2147483647 : Int32))), .val (.int (p1 &&& (2147483647 : Int32))), .val (.ref a1), .val (.ref a3), .val (.ref a7), .val (.int (1 : Int32)), .val (.long (((p0 &&& (2147483647 : Int32))).toInt64 + (((p2 &&& (3 : Int32)) - (1 : Int32))).toInt64)), .second, .val (.int (1 : Int32)), .val (.int ((((p0 &&& (2147483647 : Int32))).toInt64 + (((p2 &&& (3 : Int32)) - (1 : Int32))).toInt64)).toInt32), .val (.ref a30)] [(.int (1 : Int32))])) (fun t kt => XS.iconst X39.here hx rfl (hb hby at_151) kt) ?_
          refine Go.st (S' := T39.setTop (mkF m 156 #[.val (.int p0), .val (.int p1), .val (.int p2), .val (.int p3), .val (.int (p0 &&& (2147483647 : Int32))), .val (.int (p1 &&& (2147483647 : Int32))), .val (.ref a1), .val (.ref a3), .val (.ref a7), .val (.int (1 : Int32)), .val (.long (((p0 &&& (2147483647 : Int32))).toInt64 + (((p2 &&& (3 : Int32)) - (1 : Int32))).toInt64)), .second, .val (.int (1 : Int32)), .val (.int ((((p0 &&& (2147483647 : Int32))).toInt64 + (((p2 &&& (3 : Int32)) - (1 : Int32))).toInt64)).toInt32), .val (.ref a30)] [(.int (1 : Int32))])) (fun t kt => XS.goto X39.here hx rfl (pc0 := 152) (pc' := 156) rfl (hb hby at_152) (by decide) (by decide) kt) ?_
          refine Go.st (S' := T39.setTop (mkF m 158 #[.val (.int p0), .val (.int p1), .val (.int p2), .val (.int p3), .val (.int (p0 &&& (2147483647 : Int32))), .val (.int (p1 &&& (2147483647 : Int32))), .val (.ref a1), .val (.ref a3), .val (.ref a7), .val (.int (1 : Int32)), .val (.long (((p0 &&& (2147483647 : Int32))).toInt64 + (((p2 &&& (3 : Int32)) - (1 : Int32))).toInt64)), .second, .val (.int (1 : Int32)), .val (.int ((((p0 &&& (2147483647 : Int32))).toInt64 + (((p2 &&& (3 : Int32)) - (1 : Int32))).toInt64)).toInt32), .val (.ref a30)] [])) (fun t kt => XS.istore X39.here hx rfl (hb hby at_156) rfl rfl kt) ?_
          refine Go.st (S' := T39.setTop (mkF m 160 #[.val (.int p0), .val (.int p1), .val (.int p2), .val (.int p3), .val (.int (p0 &&& (2147483647 : Int32))), .val (.int (p1 &&& (2147483647 : Int32))), .val (.ref a1), .val (.ref a3), .val (.ref a7), .val (.int (1 : Int32)), .val (.long (((p0 &&& (2147483647 : Int32))).toInt64 + (((p2 &&& (3 : Int32)) - (1 : Int32))).toInt64)), .second, .val (.int (1 : Int32)), .val (.int ((((p0 &&& (2147483647 : Int32))).toInt64 + (((p2 &&& (3 : Int32)) - (1 : Int32))).toInt64)).toInt32), .val (.ref a30)] [(.int (1 : Int32))])) (fun t kt => XS.iload X39.here hx rfl (hb hby at_158) rfl kt) ?_
          refine Go.st (S' := T39.setTop (mkF m 163 #[.val (.int p0), .val (.int p1), .val (.int p2), .val (.int p3), .val (.int (p0 &&& (2147483647 : Int32))), .val (.int (p1 &&& (2147483647 : Int32))), .val (.ref a1), .val (.ref a3), .val (.ref a7), .val (.int (1 : Int32)), .val (.long (((p0 &&& (2147483647 : Int32))).toInt64 + (((p2 &&& (3 : Int32)) - (1 : Int32))).toInt64)), .second, .val (.int (1 : Int32)), .val (.int ((((p0 &&& (2147483647 : Int32))).toInt64 + (((p2 &&& (3 : Int32)) - (1 : Int32))).toInt64)).toInt32), .val (.ref a30)] [])) (fun t kt => XS.ifNo X39.here hx rfl (hb hby at_160) rfl (XT.i0_eq_f (by decide)) kt) ?_
          refine Go.st (S' := T39.setTop (mkF m 165 #[.val (.int p0), .val (.int p1), .val (.int p2), .val (.int p3), .val (.int (p0 &&& (2147483647 : Int32))), .val (.int (p1 &&& (2147483647 : Int32))), .val (.ref a1), .val (.ref a3), .val (.ref a7), .val (.int (1 : Int32)), .val (.long (((p0 &&& (2147483647 : Int32))).toInt64 + (((p2 &&& (3 : Int32)) - (1 : Int32))).toInt64)), .second, .val (.int (1 : Int32)), .val (.int ((((p0 &&& (2147483647 : Int32))).toInt64 + (((p2 &&& (3 : Int32)) - (1 : Int32))).toInt64)).toInt32), .val (.ref a30)] [(.int (1 : Int32))])) (fun t kt => XS.iload X39.here hx rfl (hb hby at_163) rfl kt) ?_
          refine Go.st (S' := T39.setTop (mkF m 168 #[.val (.int p0), .val (.int p1), .val (.int p2), .val (.int p3), .val (.int (p0 &&& (2147483647 : Int32))), .val (.int (p1 &&& (2147483647 : Int32))), .val (.ref a1), .val (.ref a3), .val (.ref a7), .val (.int (1 : Int32)), .val (.long (((p0 &&& (2147483647 : Int32))).toInt64 + (((p2 &&& (3 : Int32)) - (1 : Int32))).toInt64)), .second, .val (.int (1 : Int32)), .val (.int ((((p0 &&& (2147483647 : Int32))).toInt64 + (((p2 &&& (3 : Int32)) - (1 : Int32))).toInt64)).toInt32), .val (.ref a30)] [])) (fun t kt => XS.ifNo X39.here hx rfl (hb hby at_165) rfl (XT.i0_eq_f (by decide)) kt) ?_
          refine Go.st (S' := T39.setTop (mkF m 169 #[.val (.int p0), .val (.int p1), .val (.int p2), .val (.int p3), .val (.int (p0 &&& (2147483647 : Int32))), .val (.int (p1 &&& (2147483647 : Int32))), .val (.ref a1), .val (.ref a3), .val (.ref a7), .val (.int (1 : Int32)), .val (.long (((p0 &&& (2147483647 : Int32))).toInt64 + (((p2 &&& (3 : Int32)) - (1 : Int32))).toInt64)), .second, .val (.int (1 : Int32)), .val (.int ((((p0 &&& (2147483647 : Int32))).toInt64 + (((p2 &&& (3 : Int32)) - (1 : Int32))).toInt64)).toInt32), .val (.ref a30)] [(.int (1 : Int32))])) (fun t kt => XS.iconst X39.here hx rfl (hb hby at_168) kt) ?_
          refine Go.st (S' := T39.setTop (mkF m 173 #[.val (.int p0), .val (.int p1), .val (.int p2), .val (.int p3), .val (.int (p0 &&& (2147483647 : Int32))), .val (.int (p1 &&& (2147483647 : Int32))), .val (.ref a1), .val (.ref a3), .val (.ref a7), .val (.int (1 : Int32)), .val (.long (((p0 &&& (2147483647 : Int32))).toInt64 + (((p2 &&& (3 : Int32)) - (1 : Int32))).toInt64)), .second, .val (.int (1 : Int32)), .val (.int ((((p0 &&& (2147483647 : Int32))).toInt64 + (((p2 &&& (3 : Int32)) - (1 : Int32))).toInt64)).toInt32), .val (.ref a30)] [(.int (1 : Int32))])) (fun t kt => XS.goto X39.here hx rfl (pc0 := 169) (pc' := 173) rfl (hb hby at_169) (by decide) (by decide) kt) ?_
          exact ret_b X39 hx hlk hret (hb hby at_173) (by decide) (by decide) (⟨rfl, N39⟩)
set_option maxRecDepth 65536 in
set_option maxHeartbeats 40000000 in
theorem comes_1 {Post : Tables → Env → Array Value → State → Outcome → State → Prop} (hpost : ∀ tb e args s v u, (limb_1_1.after args s (.returned v) u = true ∧ limb_1_2.after args s (.returned v) u = true ∧ True) → FrameEnd s (.returned v) u (Jvm.fieldLocs frame_1_writes args s ++ Jvm.arrayLocs frame_1_arrays args s ++ Jvm.staticLocs frame_1_statics s) 24 128 → Post tb e args s (.returned v) u) :
    ArmFor flags0 classFile x code maxLocals ret World_1 tables_1 room_1 Calls_1 rest_1 Pre_1 Post := by
  intro l hfl _ _ p e ha hc hk s m args below hf hA hF happ hP
  obtain ⟨hcalls, hrest, hpre⟩ := hP
  obtain ⟨-, -, -, hnamed, -, hinit0, -, hat⟩ := (Spec.applies_iff hf).mp happ
  obtain ⟨hg, hn⟩ := and_e (Cond.before_iff.mp (show (Jvm.Cond.and given_1 narrow_1).before args s = true from hpre))
  obtain ⟨hcount, hgs⟩ := and_e hg
  obtain ⟨hg0, hgs⟩ := and_e hgs
  obtain ⟨hg1, hgs⟩ := and_e hgs
  obtain ⟨hg2, hg3⟩ := and_e hgs
  obtain ⟨w0, w1, w2, w3, rfl⟩ : ∃ w0 w1 w2 w3 : Value, args = #[w0, w1, w2, w3] := by
    have hs : args.size = 4 := by simpa [Cond.value, given_1] using hcount
    obtain ⟨L⟩ := args
    match L, hs with
    | [w0, w1, w2, w3], _ => exact ⟨w0, w1, w2, w3, rfl⟩
  have hw := fun d (hd : d ∈ tables_1) => atoms_spec (ws := Jvm.Cond.code x code maxLocals ret :: tables_1) hat d (List.mem_cons_of_mem _ hd)
  have hfit : Fit s := fun {y c} hc i hi => by
    obtain ⟨ha, rfl⟩ := Array.getElem?_eq_some_iff.mp hc
    have q := List.all_eq_true.mp ((Array.all_eq_true_iff_forall_mem.mp hF) _ (Array.getElem_mem ha)) i (List.mem_range.mpr hi)
    simpa [Array.getElem?_eq_getElem hi] using q
  obtain ⟨hsets, hown0⟩ := atoms_of _ (rest_1_c_eq ▸ (show rest_1_c.before _ s = true from hrest))
  have hr0 := Cond.before_iff.mp hown0
  obtain ⟨i0, ei0⟩ := is_v hg0
  obtain rfl : w0 = (.int i0) := Option.some.inj ei0
  obtain ⟨i1, ei1⟩ := is_v hg1
  obtain rfl : w1 = (.int i1) := Option.some.inj ei1
  obtain ⟨i2, ei2⟩ := is_v hg2
  obtain rfl : w2 = (.int i2) := Option.some.inj ei2
  obtain ⟨i3, ei3⟩ := is_v hg3
  obtain rfl : w3 = (.int i3) := Option.some.inj ei3
  obtain ⟨cs, vcs⟩ := is_v (Cond.before_iff.mp (hsets _ (List.mem_of_getElem? (i := 1) rfl)))
  have S_cs := Sta.start vcs (Or.inl (hsets _ (List.mem_of_getElem? (i := 0) rfl)))
  have hcs : ¬ cs = 0 := gotF (own_eqI vcs (Term.int_eval 0)) (not_v (Cond.before_iff.mp (hsets _ (List.mem_of_getElem? (i := 2) rfl))))
  obtain ⟨n, o, h1, h2, h3, _, L, rfl, ⟨rfl, N⟩, hq⟩ := rm0 l s _ hw i0 i1 i2 i3 s.heap s.heap.size (Nat.le_refl _) cs S_cs hcs tables_1 p e ha hc hk s m _ below hf ((Spec.applies_iff_loose hf).mp happ).1 ⟨rfl, State.Warmed39.refl s, rfl⟩ trivial
  refine ⟨n, _, h1, h2, h3, hpost _ _ _ _ _ _ ⟨Cond.after_iff.mpr rfl, Cond.after_iff.mpr (eq_i res_at (Term.int_eval (1)) rfl), trivial⟩ ⟨hq.1, hq.2.1, (hq.2.2.sift fun y hy => Or.inr (N y hy)).mono (by decide) (by decide)⟩⟩
theorem main_1_1 : Claimed_1_1 := comes_1 fun _ _ _ _ _ _ h hF => ⟨h.1, hF⟩
theorem main_1_2 : Claimed_1_2 := comes_1 fun _ _ _ _ _ _ h hF => ⟨h.2.1, hF⟩
end Jvm.Pilot.@@N@@
namespace Jvm.Pilot.@@N@@
open Jvm Jvm.ClassFile Sem Op Lib Jvm.Free Jvm.Stand Jvm.Pilot.@@N@@.Jvm.D
/-! MADE BY PROGRAM (witnessworld.py) out of the Statement's table words and the real class files: 20 classes; the members and pool entries that the words name. The judged class is class 1, her method 1. -/
namespace start1
open Jvm.ClassFile
def u (s : String) : CpInfo := .utf8 (stringToUtf16 s)
/-- a pool by its gaps: so many unusable entries, then the entry; so many at the end -/
def gap : Nat → List CpInfo → List CpInfo
  | 0, r => r
  | n + 1, r => .unusable :: gap n r
def poolList (es : List (Nat × CpInfo)) (last : Nat) : List CpInfo := es.foldr (fun e r => gap e.1 (e.2 :: r)) (gap last [])
def pool (es : List (Nat × CpInfo)) (last : Nat) : Array CpInfo := ⟨poolList es last⟩
def fileOf (pool : Array CpInfo) (this : Nat) (attrs : Array Attribute := #[]) (ms : Array MethodInfo := #[]) (fl : Nat := 33) (sup : Nat := 0) (ifs : Array Nat := #[]) (fds : Array FieldInfo := #[]) : ClassFile where
  minorVersion := 0
  majorVersion := 65
  constantPool := pool
  accessFlags := fl
  thisClass := this
  superClass := sup
  interfaces := ifs
  fields := fds
  methods := ms
  attributes := attrs
def plain (name : String) (sup : Option ClassId) : Class where
  name := name
  kind := .ordinary
  loader := none
  accessFlags := 33
  super := sup
  interfaces := #[]
  cf := none
  fields := #[]
  methods := #[]
  instanceTypes := #[]
  staticTypes := #[]
  resolved := #[]
  callSites := []
  init := .initialized
  statics := none
  mirror := none

def pool0 : Array CpInfo := pool [(5, u "<init>"), (0, u "()V"), (1, .class_ 10), (1, u "java/lang/Object")] 113

def k0c0 : Code := { maxStack := 0, maxLocals := 1, code := object_method_1_code, exceptionTable := #[], attributes := #[] }
def k0m0 : Method := { name := "<init>", desc := "()V", sig := { parameters := [], returnType := none }, accessFlags := 1, code := some k0c0 }
/-- java/lang/Object -/
def k0 : Class := { plain "java/lang/Object" none with
  accessFlags := 33
  interfaces := #[]
  cf := some (fileOf pool0 8 #[] #[{ accessFlags := 1, nameIndex := 5, descriptorIndex := 6, attributes := #[] }] 33 0 #[] #[])
  fields := #[]
  methods := #[k0m0]
  instanceTypes := #[]
  staticTypes := #[]
  resolved := Array.replicate 124 none
  statics := none }

def pool1 : Array CpInfo := pool [(2, .class_ 4), (1, u "java/lang/Object"), (0, u "<init>"), (0, u "()V"), (0, .integer 2147483647), (0, .class_ 9), (0, u "java/lang/String"), (0, .methodref 8 11), (0, .nameAndType 5 12), (0, u "([C)V"), (0, .class_ 14), (0, u "com/example/seatwright/seatwright/engine/Bucket"), (0, .methodref 13 16), (0, .nameAndType 5 17), (0, u "(Ljava/lang/String;II)V"), (0, .methodref 13 19), (0, .nameAndType 20 21), (0, u "isFull"), (0, u "()Z"), (2, .long 2147483647), (1, .class_ 27), (0, u "com/example/seatwright/seatwright/engine/BucketIsFullPinLaw"), (2, u "law"), (0, u "(IIII)Z")] 5

def k1m0 : Method := { name := "<init>", desc := "()V", sig := { parameters := [], returnType := none }, accessFlags := 1, code := none }
def k1c1 : Code := { maxStack := 5, maxLocals := 15, code := code, exceptionTable := #[], attributes := #[] }
def k1m1 : Method := { name := "law", desc := "(IIII)Z", sig := { parameters := [.int, .int, .int, .int], returnType := some .boolean }, accessFlags := 9, code := some k1c1 }
/-- com/example/seatwright/seatwright/engine/BucketIsFullPinLaw -/
def k1 : Class := { plain "com/example/seatwright/seatwright/engine/BucketIsFullPinLaw" (some 0) with
  accessFlags := 49
  interfaces := #[]
  cf := some (fileOf pool1 26 #[] #[{ accessFlags := 1, nameIndex := 5, descriptorIndex := 6, attributes := #[] }, { accessFlags := 9, nameIndex := 30, descriptorIndex := 31, attributes := #[] }] 49 2 #[] #[])
  fields := #[]
  methods := #[k1m0, k1m1]
  instanceTypes := #[]
  staticTypes := #[]
  resolved := Array.replicate 37 none
  statics := none }

def pool2 : Array CpInfo := pool [(1, .class_ 2), (0, u "java/io/Serializable"), (0, .class_ 4), (0, u "java/lang/Object")] 2

/-- java/io/Serializable -/
def k2 : Class := { plain "java/io/Serializable" (some 0) with
  accessFlags := 1537
  interfaces := #[]
  cf := some (fileOf pool2 1 #[] #[] 1537 3 #[] #[])
  fields := #[]
  methods := #[]
  instanceTypes := #[]
  staticTypes := #[]
  resolved := Array.replicate 7 none
  statics := none }

def pool3 : Array CpInfo := pool [(1, .class_ 2), (0, u "java/lang/Comparable"), (0, .class_ 4), (0, u "java/lang/Object")] 7

/-- java/lang/Comparable -/
def k3 : Class := { plain "java/lang/Comparable" (some 0) with
  accessFlags := 1537
  interfaces := #[]
  cf := some (fileOf pool3 1 #[] #[] 1537 3 #[] #[])
  fields := #[]
  methods := #[]
  instanceTypes := #[]
  staticTypes := #[]
  resolved := Array.replicate 12 none
  statics := none }

def pool4 : Array CpInfo := pool [(2, .class_ 4), (1, u "java/lang/CharSequence"), (42, .class_ 48), (0, u "java/lang/CharSequence$1CodePointIterator"), (10, .class_ 60), (0, u "java/lang/CharSequence$1CharIterator"), (5, .class_ 67), (0, u "java/lang/Object")] 63

/-- java/lang/CharSequence -/
def k4 : Class := { plain "java/lang/CharSequence" (some 0) with
  accessFlags := 1537
  interfaces := #[]
  cf := some (fileOf pool4 2 #[.nestMembers #[47, 59]] #[] 1537 66 #[] #[])
  fields := #[]
  methods := #[]
  instanceTypes := #[]
  staticTypes := #[]
  resolved := Array.replicate 131 none
  statics := none }

def pool5 : Array CpInfo := pool [(1, .class_ 2), (0, u "java/lang/constant/Constable"), (0, .class_ 4), (0, u "java/lang/Object")] 6

/-- java/lang/constant/Constable -/
def k5 : Class := { plain "java/lang/constant/Constable" (some 0) with
  accessFlags := 1537
  interfaces := #[]
  cf := some (fileOf pool5 1 #[] #[] 1537 3 #[] #[])
  fields := #[]
  methods := #[]
  instanceTypes := #[]
  staticTypes := #[]
  resolved := Array.replicate 11 none
  statics := none }

def pool6 : Array CpInfo := pool [(1, .class_ 2), (0, u "java/lang/constant/ConstantDesc"), (0, .class_ 4), (0, u "java/lang/Object")] 32

/-- java/lang/constant/ConstantDesc -/
def k6 : Class := { plain "java/lang/constant/ConstantDesc" (some 0) with
  accessFlags := 1537
  interfaces := #[]
  cf := some (fileOf pool6 1 #[] #[] 1537 3 #[] #[])
  fields := #[]
  methods := #[]
  instanceTypes := #[]
  staticTypes := #[]
  resolved := Array.replicate 37 none
  statics := none }

def pool7 : Array CpInfo := pool [(1, .methodref 2 3), (0, .class_ 4), (0, .nameAndType 5 6), (0, u "java/lang/Object"), (0, u "<init>"), (0, u "()V"), (2, .fieldref 10 11), (0, .class_ 12), (0, .nameAndType 13 14), (0, u "java/lang/String"), (0, u "value"), (0, u "[B"), (0, .fieldref 10 16), (0, .nameAndType 17 18), (0, u "coder"), (0, u "B"), (2, u "hash"), (0, u "I"), (2, u "hashIsZero"), (0, u "Z"), (0, .methodref 10 28), (0, .nameAndType 5 29), (0, u "([CIILjava/lang/Void;)V"), (8, .fieldref 10 39), (0, .nameAndType 40 26), (0, u "COMPACT_STRINGS"), (1, .class_ 44), (1, u "java/lang/StringUTF16"), (0, u "compress"), (1, .methodref 42 48), (0, .nameAndType 49 50), (0, u "coderFromArrayLen"), (0, u "([BI)B"), (126, .methodref 42 178), (0, .nameAndType 45 179), (0, u "([CII)[B"), (395, .class_ 576), (0, u "java/lang/CharSequence"), (22, u "CASE_INSENSITIVE_ORDER"), (0, u "Ljava/util/Comparator;"), (409, u "([C)V"), (90, u "serialPersistentFields"), (0, u "[Ljava/io/ObjectStreamField;"), (0, .class_ 1104), (0, u "java/lang/String$CaseInsensitiveComparator"), (1, .class_ 1107), (0, u "java/io/Serializable"), (0, .class_ 1109), (0, u "java/lang/Comparable"), (0, .class_ 1111), (0, u "java/lang/constant/Constable"), (0, .class_ 1113), (0, u "java/lang/constant/ConstantDesc"), (2, u "serialVersionUID"), (0, u "J"), (3, u "REPL"), (0, u "C"), (2, u "LATIN1"), (1, u "UTF16")] 323

def k7m0 : Method := { name := "<init>", desc := "()V", sig := { parameters := [], returnType := none }, accessFlags := 1, code := none }
def k7c1 : Code := { maxStack := 5, maxLocals := 2, code := jdk_42_method_3_code, exceptionTable := #[], attributes := #[] }
def k7m1 : Method := { name := "<init>", desc := "([C)V", sig := { parameters := [(.array .char)], returnType := none }, accessFlags := 1, code := some k7c1 }
def k7c2 : Code := { maxStack := 4, maxLocals := 6, code := jdk_42_method_149_code, exceptionTable := #[], attributes := #[] }
def k7m2 : Method := { name := "<init>", desc := "([CIILjava/lang/Void;)V", sig := { parameters := [(.array .char), .int, .int, (.object "java/lang/Void")], returnType := none }, accessFlags := 2, code := some k7c2 }
/-- java/lang/String -/
def k7 : Class := { plain "java/lang/String" (some 0) with
  accessFlags := 49
  interfaces := #[2, 3, 4, 5, 6]
  cf := some (fileOf pool7 10 #[.nestMembers #[1103]] #[{ accessFlags := 1, nameIndex := 5, descriptorIndex := 6, attributes := #[] }, { accessFlags := 1, nameIndex := 5, descriptorIndex := 1010, attributes := #[] }, { accessFlags := 2, nameIndex := 5, descriptorIndex := 29, attributes := #[] }] 49 2 #[1106, 1108, 575, 1110, 1112] #[{ accessFlags := 18, nameIndex := 13, descriptorIndex := 14, attributes := #[] }, { accessFlags := 18, nameIndex := 17, descriptorIndex := 18, attributes := #[] }, { accessFlags := 2, nameIndex := 21, descriptorIndex := 22, attributes := #[] }, { accessFlags := 2, nameIndex := 25, descriptorIndex := 26, attributes := #[] }, { accessFlags := 26, nameIndex := 1116, descriptorIndex := 1117, attributes := #[] }, { accessFlags := 24, nameIndex := 40, descriptorIndex := 26, attributes := #[] }, { accessFlags := 26, nameIndex := 1101, descriptorIndex := 1102, attributes := #[] }, { accessFlags := 26, nameIndex := 1121, descriptorIndex := 1122, attributes := #[] }, { accessFlags := 25, nameIndex := 599, descriptorIndex := 600, attributes := #[] }, { accessFlags := 24, nameIndex := 1125, descriptorIndex := 18, attributes := #[] }, { accessFlags := 24, nameIndex := 1127, descriptorIndex := 18, attributes := #[] }])
  fields := #[{ name := "value", type := (.array .byte), accessFlags := 18, slot := 0, constantValue := 0 }, { name := "coder", type := .byte, accessFlags := 18, slot := 1, constantValue := 0 }, { name := "hash", type := .int, accessFlags := 2, slot := 2, constantValue := 0 }, { name := "hashIsZero", type := .boolean, accessFlags := 2, slot := 3, constantValue := 0 }, { name := "serialVersionUID", type := .long, accessFlags := 26, slot := 0, constantValue := 0 }, { name := "COMPACT_STRINGS", type := .boolean, accessFlags := 24, slot := 1, constantValue := 0 }, { name := "serialPersistentFields", type := (.array (.object "java/io/ObjectStreamField")), accessFlags := 26, slot := 2, constantValue := 0 }, { name := "REPL", type := .char, accessFlags := 26, slot := 3, constantValue := 0 }, { name := "CASE_INSENSITIVE_ORDER", type := (.object "java/util/Comparator"), accessFlags := 25, slot := 4, constantValue := 0 }, { name := "LATIN1", type := .byte, accessFlags := 24, slot := 5, constantValue := 0 }, { name := "UTF16", type := .byte, accessFlags := 24, slot := 6, constantValue := 0 }]
  methods := #[k7m0, k7m1, k7m2]
  instanceTypes := #[(.array .byte), .byte, .int, .boolean]
  staticTypes := #[.long, .boolean, (.array (.object "java/io/ObjectStreamField")), .char, (.object "java/util/Comparator"), .byte, .byte]
  resolved := Array.replicate 1451 none
  statics := some 0 }

def pool8 : Array CpInfo := pool [(6, .class_ 8), (1, u "java/lang/Object"), (0, u "<init>"), (0, u "()V"), (1, .class_ 14), (1, u "java/lang/StringUTF16"), (31, u "$assertionsDisabled"), (0, u "Z"), (13, u "HI_BYTE_SHIFT"), (0, u "I"), (2, u "LO_BYTE_SHIFT"), (49, .methodref 12 116), (0, .nameAndType 117 118), (0, u "compress"), (0, u "([CI[BII)I"), (3, u "([CII)[B"), (138, u "coderFromArrayLen"), (0, u "([BI)B"), (106, .class_ 371), (1, u "java/lang/StringUTF16$LinesSpliterator"), (58, u "MAX_LENGTH"), (196, .class_ 628), (0, u "java/lang/StringUTF16$CodePointsSpliterator"), (0, .class_ 630), (0, u "java/lang/StringUTF16$CharsSpliterator")] 4

def k8m0 : Method := { name := "<init>", desc := "()V", sig := { parameters := [], returnType := none }, accessFlags := 0, code := none }
def k8c1 : Code := { maxStack := 2, maxLocals := 2, code := jdk_52_method_15_code, exceptionTable := #[], attributes := #[] }
def k8m1 : Method := { name := "coderFromArrayLen", desc := "([BI)B", sig := { parameters := [(.array .byte), .int], returnType := some .byte }, accessFlags := 8, code := some k8c1 }
def k8c2 : Code := { maxStack := 5, maxLocals := 6, code := jdk_52_method_16_code, exceptionTable := #[], attributes := #[] }
def k8m2 : Method := { name := "compress", desc := "([CII)[B", sig := { parameters := [(.array .char), .int, .int], returnType := some (.array .byte) }, accessFlags := 9, code := some k8c2 }
def k8c3 : Code := { maxStack := 3, maxLocals := 7, code := jdk_52_method_21_code, exceptionTable := #[], attributes := #[] }
def k8m3 : Method := { name := "compress", desc := "([CI[BII)I", sig := { parameters := [(.array .char), .int, (.array .byte), .int, .int], returnType := some .int }, accessFlags := 9, code := some k8c3 }
/-- java/lang/StringUTF16 -/
def k8 : Class := { plain "java/lang/StringUTF16" (some 0) with
  accessFlags := 48
  interfaces := #[]
  cf := some (fileOf pool8 12 #[.nestMembers #[627, 629, 369]] #[{ accessFlags := 0, nameIndex := 9, descriptorIndex := 10, attributes := #[] }, { accessFlags := 8, nameIndex := 261, descriptorIndex := 262, attributes := #[] }, { accessFlags := 9, nameIndex := 117, descriptorIndex := 122, attributes := #[] }, { accessFlags := 9, nameIndex := 117, descriptorIndex := 118, attributes := #[] }] 48 6 #[] #[{ accessFlags := 26, nameIndex := 61, descriptorIndex := 62, attributes := #[] }, { accessFlags := 26, nameIndex := 65, descriptorIndex := 62, attributes := #[] }, { accessFlags := 24, nameIndex := 430, descriptorIndex := 62, attributes := #[] }, { accessFlags := 4120, nameIndex := 46, descriptorIndex := 47, attributes := #[] }])
  fields := #[{ name := "HI_BYTE_SHIFT", type := .int, accessFlags := 26, slot := 0, constantValue := 0 }, { name := "LO_BYTE_SHIFT", type := .int, accessFlags := 26, slot := 1, constantValue := 0 }, { name := "MAX_LENGTH", type := .int, accessFlags := 24, slot := 2, constantValue := 0 }, { name := "$assertionsDisabled", type := .boolean, accessFlags := 4120, slot := 3, constantValue := 0 }]
  methods := #[k8m0, k8m1, k8m2, k8m3]
  instanceTypes := #[]
  staticTypes := #[.int, .int, .int, .boolean]
  resolved := Array.replicate 635 none
  statics := none }

def pool9 : Array CpInfo := pool [(1, .methodref 2 3), (0, .class_ 4), (0, .nameAndType 5 6), (0, u "java/lang/Object"), (0, u "<init>"), (0, u "()V"), (0, .fieldref 8 9), (0, .class_ 10), (0, .nameAndType 11 12), (0, u "com/example/seatwright/seatwright/engine/Bucket"), (0, u "unit"), (0, u "Ljava/lang/String;"), (0, .fieldref 8 14), (0, .nameAndType 15 16), (0, u "size"), (0, u "I"), (0, .fieldref 8 18), (0, .nameAndType 19 16), (0, u "inUse"), (0, .methodref 8 21), (0, .nameAndType 22 23), (0, u "free"), (0, u "()I"), (2, u "above"), (0, u "Lcom/example/seatwright/seatwright/engine/Bucket;"), (2, u "(Ljava/lang/String;II)V"), (3, u "isFull"), (0, u "()Z")] 9

def k9c0 : Code := { maxStack := 2, maxLocals := 4, code := prog_6_method_1_code, exceptionTable := #[], attributes := #[] }
def k9m0 : Method := { name := "<init>", desc := "(Ljava/lang/String;II)V", sig := { parameters := [(.object "java/lang/String"), .int, .int], returnType := none }, accessFlags := 0, code := some k9c0 }
def k9c1 : Code := { maxStack := 2, maxLocals := 1, code := prog_6_method_5_code, exceptionTable := #[], attributes := #[] }
def k9m1 : Method := { name := "free", desc := "()I", sig := { parameters := [], returnType := some .int }, accessFlags := 0, code := some k9c1 }
def k9c2 : Code := { maxStack := 1, maxLocals := 1, code := prog_6_method_6_code, exceptionTable := #[], attributes := #[] }
def k9m2 : Method := { name := "isFull", desc := "()Z", sig := { parameters := [], returnType := some .boolean }, accessFlags := 0, code := some k9c2 }
/-- com/example/seatwright/seatwright/engine/Bucket -/
def k9 : Class := { plain "com/example/seatwright/seatwright/engine/Bucket" (some 0) with
  accessFlags := 33
  interfaces := #[]
  cf := some (fileOf pool9 8 #[] #[{ accessFlags := 0, nameIndex := 5, descriptorIndex := 30, attributes := #[] }, { accessFlags := 0, nameIndex := 22, descriptorIndex := 23, attributes := #[] }, { accessFlags := 0, nameIndex := 34, descriptorIndex := 35, attributes := #[] }] 33 2 #[] #[{ accessFlags := 18, nameIndex := 11, descriptorIndex := 12, attributes := #[] }, { accessFlags := 18, nameIndex := 15, descriptorIndex := 16, attributes := #[] }, { accessFlags := 2, nameIndex := 19, descriptorIndex := 16, attributes := #[] }, { accessFlags := 2, nameIndex := 26, descriptorIndex := 27, attributes := #[] }])
  fields := #[{ name := "unit", type := (.object "java/lang/String"), accessFlags := 18, slot := 0, constantValue := 0 }, { name := "size", type := .int, accessFlags := 18, slot := 1, constantValue := 0 }, { name := "inUse", type := .int, accessFlags := 2, slot := 2, constantValue := 0 }, { name := "above", type := (.object "com/example/seatwright/seatwright/engine/Bucket"), accessFlags := 2, slot := 3, constantValue := 0 }]
  methods := #[k9m0, k9m1, k9m2]
  instanceTypes := #[(.object "java/lang/String"), .int, .int, (.object "com/example/seatwright/seatwright/engine/Bucket")]
  staticTypes := #[]
  resolved := Array.replicate 45 none
  statics := none }

def pool10 : Array CpInfo := pool [(4, .class_ 6), (1, u "java/lang/Object"), (0, u "<init>"), (0, u "()V"), (5, .class_ 16), (1, u "java/lang/StringLatin1"), (104, u "$assertionsDisabled"), (0, u "Z"), (98, .class_ 223), (1, u "java/lang/StringLatin1$LinesSpliterator"), (166, .class_ 391), (0, u "java/lang/StringLatin1$CharsSpliterator")] 3

def k10m0 : Method := { name := "<init>", desc := "()V", sig := { parameters := [], returnType := none }, accessFlags := 0, code := none }
/-- java/lang/StringLatin1 -/
def k10 : Class := { plain "java/lang/StringLatin1" (some 0) with
  accessFlags := 48
  interfaces := #[]
  cf := some (fileOf pool10 14 #[.nestMembers #[390, 221]] #[{ accessFlags := 0, nameIndex := 7, descriptorIndex := 8, attributes := #[] }] 48 4 #[] #[{ accessFlags := 4120, nameIndex := 121, descriptorIndex := 122, attributes := #[] }])
  fields := #[{ name := "$assertionsDisabled", type := .boolean, accessFlags := 4120, slot := 0, constantValue := 0 }]
  methods := #[k10m0]
  instanceTypes := #[]
  staticTypes := #[.boolean]
  resolved := Array.replicate 395 none
  statics := none }

def pool11 : Array CpInfo := pool [(2, .class_ 4), (1, u "java/lang/Object"), (0, u "<init>"), (0, u "()V"), (17, .class_ 26), (1, u "jdk/internal/util/Preconditions"), (28, .class_ 56), (0, u "jdk/internal/util/Preconditions$4"), (57, .class_ 115), (0, u "jdk/internal/util/Preconditions$1"), (7, u "SIOOBE_FORMATTER"), (0, u "Ljava/util/function/BiFunction;"), (0, .class_ 126), (0, u "jdk/internal/util/Preconditions$2"), (3, u "AIOOBE_FORMATTER"), (0, .class_ 132), (0, u "jdk/internal/util/Preconditions$3"), (3, u "IOOBE_FORMATTER")] 57

def k11m0 : Method := { name := "<init>", desc := "()V", sig := { parameters := [], returnType := none }, accessFlags := 1, code := none }
/-- jdk/internal/util/Preconditions -/
def k11 : Class := { plain "jdk/internal/util/Preconditions" (some 0) with
  accessFlags := 33
  interfaces := #[]
  cf := some (fileOf pool11 24 #[.nestMembers #[55, 131, 125, 114]] #[{ accessFlags := 1, nameIndex := 5, descriptorIndex := 6, attributes := #[] }] 33 2 #[] #[{ accessFlags := 25, nameIndex := 123, descriptorIndex := 124, attributes := #[] }, { accessFlags := 25, nameIndex := 130, descriptorIndex := 124, attributes := #[] }, { accessFlags := 25, nameIndex := 136, descriptorIndex := 124, attributes := #[] }])
  fields := #[{ name := "SIOOBE_FORMATTER", type := (.object "java/util/function/BiFunction"), accessFlags := 25, slot := 0, constantValue := 0 }, { name := "AIOOBE_FORMATTER", type := (.object "java/util/function/BiFunction"), accessFlags := 25, slot := 1, constantValue := 0 }, { name := "IOOBE_FORMATTER", type := (.object "java/util/function/BiFunction"), accessFlags := 25, slot := 2, constantValue := 0 }]
  methods := #[k11m0]
  instanceTypes := #[]
  staticTypes := #[(.object "java/util/function/BiFunction"), (.object "java/util/function/BiFunction"), (.object "java/util/function/BiFunction")]
  resolved := Array.replicate 194 none
  statics := some 1 }

def pool12 : Array CpInfo := pool [(9, u "<init>"), (6, .class_ 18), (1, u "java/lang/Object"), (0, u "()V"), (1, .class_ 23), (1, u "jdk/internal/util/ArraysSupport"), (0, u "LOG2_ARRAY_LONG_INDEX_SCALE"), (0, u "I"), (2, u "U"), (0, u "Ljdk/internal/misc/Unsafe;"), (8, u "BIG_ENDIAN"), (0, u "Z"), (8, u "LOG2_BYTE_BIT_SIZE"), (4, u "LOG2_ARRAY_INT_INDEX_SCALE"), (54, u "JLA"), (0, u "Ljdk/internal/access/JavaLangAccess;"), (11, u "LOG2_ARRAY_BOOLEAN_INDEX_SCALE"), (9, u "LOG2_ARRAY_BYTE_INDEX_SCALE"), (5, u "LOG2_ARRAY_CHAR_INDEX_SCALE"), (5, u "LOG2_ARRAY_SHORT_INDEX_SCALE"), (18, u "LOG2_ARRAY_FLOAT_INDEX_SCALE"), (24, u "LOG2_ARRAY_DOUBLE_INDEX_SCALE"), (89, u "T_BOOLEAN"), (2, u "T_CHAR"), (1, u "T_FLOAT"), (1, u "T_DOUBLE"), (1, u "T_BYTE"), (1, u "T_SHORT"), (1, u "T_INT"), (1, u "T_LONG"), (1, u "SOFT_MAX_ARRAY_LENGTH")] 83

def k12m0 : Method := { name := "<init>", desc := "()V", sig := { parameters := [], returnType := none }, accessFlags := 2, code := none }
/-- jdk/internal/util/ArraysSupport -/
def k12 : Class := { plain "jdk/internal/util/ArraysSupport" (some 0) with
  accessFlags := 33
  interfaces := #[]
  cf := some (fileOf pool12 21 #[] #[{ accessFlags := 2, nameIndex := 9, descriptorIndex := 19, attributes := #[] }] 33 16 #[] #[{ accessFlags := 24, nameIndex := 28, descriptorIndex := 29, attributes := #[] }, { accessFlags := 26, nameIndex := 38, descriptorIndex := 39, attributes := #[] }, { accessFlags := 25, nameIndex := 121, descriptorIndex := 25, attributes := #[] }, { accessFlags := 25, nameIndex := 131, descriptorIndex := 25, attributes := #[] }, { accessFlags := 25, nameIndex := 137, descriptorIndex := 25, attributes := #[] }, { accessFlags := 25, nameIndex := 143, descriptorIndex := 25, attributes := #[] }, { accessFlags := 25, nameIndex := 53, descriptorIndex := 25, attributes := #[] }, { accessFlags := 25, nameIndex := 24, descriptorIndex := 25, attributes := #[] }, { accessFlags := 25, nameIndex := 162, descriptorIndex := 25, attributes := #[] }, { accessFlags := 25, nameIndex := 187, descriptorIndex := 25, attributes := #[] }, { accessFlags := 26, nameIndex := 48, descriptorIndex := 25, attributes := #[] }, { accessFlags := 25, nameIndex := 277, descriptorIndex := 25, attributes := #[] }, { accessFlags := 25, nameIndex := 280, descriptorIndex := 25, attributes := #[] }, { accessFlags := 25, nameIndex := 282, descriptorIndex := 25, attributes := #[] }, { accessFlags := 25, nameIndex := 284, descriptorIndex := 25, attributes := #[] }, { accessFlags := 25, nameIndex := 286, descriptorIndex := 25, attributes := #[] }, { accessFlags := 25, nameIndex := 288, descriptorIndex := 25, attributes := #[] }, { accessFlags := 25, nameIndex := 290, descriptorIndex := 25, attributes := #[] }, { accessFlags := 25, nameIndex := 292, descriptorIndex := 25, attributes := #[] }, { accessFlags := 26, nameIndex := 108, descriptorIndex := 109, attributes := #[] }, { accessFlags := 25, nameIndex := 294, descriptorIndex := 25, attributes := #[] }])
  fields := #[{ name := "U", type := (.object "jdk/internal/misc/Unsafe"), accessFlags := 24, slot := 0, constantValue := 0 }, { name := "BIG_ENDIAN", type := .boolean, accessFlags := 26, slot := 1, constantValue := 0 }, { name := "LOG2_ARRAY_BOOLEAN_INDEX_SCALE", type := .int, accessFlags := 25, slot := 2, constantValue := 0 }, { name := "LOG2_ARRAY_BYTE_INDEX_SCALE", type := .int, accessFlags := 25, slot := 3, constantValue := 0 }, { name := "LOG2_ARRAY_CHAR_INDEX_SCALE", type := .int, accessFlags := 25, slot := 4, constantValue := 0 }, { name := "LOG2_ARRAY_SHORT_INDEX_SCALE", type := .int, accessFlags := 25, slot := 5, constantValue := 0 }, { name := "LOG2_ARRAY_INT_INDEX_SCALE", type := .int, accessFlags := 25, slot := 6, constantValue := 0 }, { name := "LOG2_ARRAY_LONG_INDEX_SCALE", type := .int, accessFlags := 25, slot := 7, constantValue := 0 }, { name := "LOG2_ARRAY_FLOAT_INDEX_SCALE", type := .int, accessFlags := 25, slot := 8, constantValue := 0 }, { name := "LOG2_ARRAY_DOUBLE_INDEX_SCALE", type := .int, accessFlags := 25, slot := 9, constantValue := 0 }, { name := "LOG2_BYTE_BIT_SIZE", type := .int, accessFlags := 26, slot := 10, constantValue := 0 }, { name := "T_BOOLEAN", type := .int, accessFlags := 25, slot := 11, constantValue := 0 }, { name := "T_CHAR", type := .int, accessFlags := 25, slot := 12, constantValue := 0 }, { name := "T_FLOAT", type := .int, accessFlags := 25, slot := 13, constantValue := 0 }, { name := "T_DOUBLE", type := .int, accessFlags := 25, slot := 14, constantValue := 0 }, { name := "T_BYTE", type := .int, accessFlags := 25, slot := 15, constantValue := 0 }, { name := "T_SHORT", type := .int, accessFlags := 25, slot := 16, constantValue := 0 }, { name := "T_INT", type := .int, accessFlags := 25, slot := 17, constantValue := 0 }, { name := "T_LONG", type := .int, accessFlags := 25, slot := 18, constantValue := 0 }, { name := "JLA", type := (.object "jdk/internal/access/JavaLangAccess"), accessFlags := 26, slot := 19, constantValue := 0 }, { name := "SOFT_MAX_ARRAY_LENGTH", type := .int, accessFlags := 25, slot := 20, constantValue := 0 }]
  methods := #[k12m0]
  instanceTypes := #[]
  staticTypes := #[(.object "jdk/internal/misc/Unsafe"), .boolean, .int, .int, .int, .int, .int, .int, .int, .int, .int, .int, .int, .int, .int, .int, .int, .int, .int, (.object "jdk/internal/access/JavaLangAccess"), .int]
  resolved := Array.replicate 378 none
  statics := none }

def pool13 : Array CpInfo := pool [(1, u "java/lang/Cloneable"), (0, .class_ 1), (0, u "java/lang/Object"), (0, .class_ 3)] 3

/-- java/lang/Cloneable -/
def k13 : Class := { plain "java/lang/Cloneable" (some 0) with
  accessFlags := 1537
  interfaces := #[]
  cf := some (fileOf pool13 2 #[] #[] 1537 4 #[] #[])
  fields := #[]
  methods := #[]
  instanceTypes := #[]
  staticTypes := #[]
  resolved := Array.replicate 8 none
  statics := none }

/-- the primitive byte -/
def k14 : Class := { plain "byte" none with kind := .primitive 'B', accessFlags := 0x411 }
/-- [B -/
def k15 : Class := { plain "[B" (some 0) with kind := .array 14 .byte, interfaces := #[13, 2], accessFlags := 1041 }

/-- the primitive char -/
def k16 : Class := { plain "char" none with kind := .primitive 'C', accessFlags := 0x411 }
/-- [C -/
def k17 : Class := { plain "[C" (some 0) with kind := .array 16 .char, interfaces := #[13, 2], accessFlags := 1041 }

/-- the primitive int -/
def k18 : Class := { plain "int" none with kind := .primitive 'I', accessFlags := 0x411 }
/-- [I -/
def k19 : Class := { plain "[I" (some 0) with kind := .array 18 .int, interfaces := #[13, 2], accessFlags := 1041 }

def heap : Heap := #[{ cls := 7, slots := #[.long 0, .int 1, .null, .int 0, .null, .int 0, .int 0], vm := .statics 7 },
  { cls := 11, slots := #[.null, .null, .null], vm := .statics 11 }]
def classes : Array Class := #[k0, k1, k2, k3, k4, k5, k6, k7, k8, k9, k10, k11, k12, k13, k14, k15, k16, k17, k18, k19]
def interned : List (Array UInt16 × Addr) := []
def slotsUsed : Nat := 10
def theMethod : MethodId := ⟨1, 1⟩
def args0 : Array Value := #[.int 5, .int 3, .int 1, .int 65]
def aboutOver (below : List Frame) : State where
  vm := { classes := classes, interned := interned.toArray }
  heap := heap
  slotsUsed := slotsUsed
  threads := #[{ frames := .invoking theMethod args0 :: below }]
def below0 : List Frame := [.native { method := ⟨0, 0⟩, args := #[] }]
def about1 : State := aboutOver below0
def p0 : Program := .bare "" "" ""
def e0 : Env := launch0.env 0 0 0
theorem w_frames : about1.frames = Frame.invoking theMethod args0 :: below0 := rfl
set_option maxRecDepth 65536 in
theorem w_args : argsFit about1.vm theMethod args0 = true := by decide +kernel
set_option maxRecDepth 65536 in
theorem w_heap : heapFits about1 = true := by decide +kernel
set_option maxRecDepth 65536 in
theorem w_runnable : about1.curStatus? = some .runnable := by decide +kernel
set_option maxRecDepth 65536 in
theorem w_alone : about1.alone = true := by decide +kernel
set_option maxRecDepth 65536 in
theorem w_named : about1.methodNamed? x = some theMethod := by decide +kernel
set_option maxRecDepth 65536 in
theorem w_hears : about1.hears theMethod below0 = true := by decide +kernel
set_option maxRecDepth 65536 in
theorem w_ripe : about1.ripe theMethod args0 below0 = true := by decide +kernel
theorem w_running : about1.status = .running := rfl
set_option maxRecDepth 65536 in
theorem w_room : about1.hasRoom e0.platform room_1 = true :=
  launch0.hasRoom_least _ room_1 (by decide +kernel) (by decide +kernel) (by decide +kernel) (by decide +kernel) (by decide +kernel) (by decide +kernel)
theorem allAtoms_all (ts : List Jvm.Cond) (a : Array Jvm.Value) (st : Jvm.State) : (allAtoms ts).before a st = ts.all (fun c => c.before a st) := by
  induction ts with
  | nil => rfl
  | cons c t ih =>
    show (Jvm.Cond.and c (allAtoms t)).before a st = _
    rw [Jvm.Cond.before_and, ih, List.all_cons]
def words1 : List Jvm.Cond := Jvm.Cond.code x code maxLocals ret :: tables_1
/-- a 'code' word, met by the world's own term for the bytes: nothing is compared byte by byte -/
theorem code_word {y : MethodName} {bytes : ByteArray} {mx : Nat} {rt : Option FieldType} {a : Array Value} {s : State} {m : MethodId} {meth : Method} {c : Code} (h1 : s.methodNamed? y = some m) (h2 : s.vm.method? m = some meth) (h3 : meth.code = some c) (h4 : c.code = bytes)
    (h5 : (c.maxLocals == mx && c.exceptionTable.isEmpty && decide (c.maxStack ≤ mostOperands) && decide (meth.sig.returnType = rt) && !meth.locks && decide (parseMethodDescriptor y.desc = some meth.sig)) = true) : (Jvm.Cond.code y bytes mx rt).before a s = true := by
  simp only [Bool.and_eq_true, beq_iff_eq, Bool.not_eq_true', decide_eq_true_eq] at h5
  obtain ⟨⟨⟨⟨⟨g1, g2⟩, g3⟩, g4⟩, g5⟩, g6⟩ := h5
  simp [Cond.before, Cond.holds, Cond.value, h1, h2, h3, h4, g1, g2, g3, g4, g5, g6]
def isCode : Jvm.Cond → Bool
  | .code _ _ _ _ => true
  | _ => false
theorem all_split {L : List Jvm.Cond} {P : Jvm.Cond → Bool} (h1 : L.all (fun c => isCode c || P c) = true) (h2 : ∀ c ∈ L.filter isCode, P c = true) : L.all P = true := by
  refine List.all_eq_true.mpr fun c hc => ?_
  have h := List.all_eq_true.mp h1 c hc
  rcases Bool.eq_false_or_eq_true (isCode c) with hi | hi
  · exact h2 c (List.mem_filter.mpr ⟨hc, hi⟩)
  · simpa [hi] using h
set_option maxRecDepth 65536 in
theorem w_c0 : (Jvm.Cond.code x code maxLocals ret).before args0 about1 = true := code_word (m := ⟨1, 1⟩) (meth := k1m1) (c := k1c1) (by decide +kernel) rfl rfl rfl (by decide +kernel)
set_option maxRecDepth 65536 in
theorem w_c1 : (Jvm.Cond.code ({ cls := "java/lang/String", name := "<init>", desc := "([C)V" } : Jvm.MethodName) jdk_42_method_3_code (2 : Nat) (Option.none : Option Jvm.ClassFile.FieldType)).before args0 about1 = true := code_word (m := ⟨7, 1⟩) (meth := k7m1) (c := k7c1) (by decide +kernel) rfl rfl rfl (by decide +kernel)
set_option maxRecDepth 65536 in
theorem w_c2 : (Jvm.Cond.code ({ cls := "java/lang/String", name := "<init>", desc := "([CIILjava/lang/Void;)V" } : Jvm.MethodName) jdk_42_method_149_code (6 : Nat) (Option.none : Option Jvm.ClassFile.FieldType)).before args0 about1 = true := code_word (m := ⟨7, 2⟩) (meth := k7m2) (c := k7c2) (by decide +kernel) rfl rfl rfl (by decide +kernel)
set_option maxRecDepth 65536 in
theorem w_c3 : (Jvm.Cond.code ({ cls := "java/lang/Object", name := "<init>", desc := "()V" } : Jvm.MethodName) object_method_1_code (1 : Nat) (Option.none : Option Jvm.ClassFile.FieldType)).before args0 about1 = true := code_word (m := ⟨0, 0⟩) (meth := k0m0) (c := k0c0) (by decide +kernel) rfl rfl rfl (by decide +kernel)
set_option maxRecDepth 65536 in
theorem w_c4 : (Jvm.Cond.code ({ cls := "java/lang/StringUTF16", name := "compress", desc := "([CII)[B" } : Jvm.MethodName) jdk_52_method_16_code (6 : Nat) (Option.some (Jvm.ClassFile.FieldType.array Jvm.ClassFile.FieldType.byte))).before args0 about1 = true := code_word (m := ⟨8, 2⟩) (meth := k8m2) (c := k8c2) (by decide +kernel) rfl rfl rfl (by decide +kernel)
set_option maxRecDepth 65536 in
theorem w_c5 : (Jvm.Cond.code ({ cls := "java/lang/StringUTF16", name := "compress", desc := "([CI[BII)I" } : Jvm.MethodName) jdk_52_method_21_code (7 : Nat) (Option.some Jvm.ClassFile.FieldType.int)).before args0 about1 = true := code_word (m := ⟨8, 3⟩) (meth := k8m3) (c := k8c3) (by decide +kernel) rfl rfl rfl (by decide +kernel)
set_option maxRecDepth 65536 in
theorem w_c6 : (Jvm.Cond.code ({ cls := "java/lang/StringUTF16", name := "coderFromArrayLen", desc := "([BI)B" } : Jvm.MethodName) jdk_52_method_15_code (2 : Nat) (Option.some Jvm.ClassFile.FieldType.byte)).before args0 about1 = true := code_word (m := ⟨8, 1⟩) (meth := k8m1) (c := k8c1) (by decide +kernel) rfl rfl rfl (by decide +kernel)
set_option maxRecDepth 65536 in
theorem w_c7 : (Jvm.Cond.code ({ cls := "com/example/seatwright/seatwright/engine/Bucket", name := "<init>", desc := "(Ljava/lang/String;II)V" } : Jvm.MethodName) prog_6_method_1_code (4 : Nat) (Option.none : Option Jvm.ClassFile.FieldType)).before args0 about1 = true := code_word (m := ⟨9, 0⟩) (meth := k9m0) (c := k9c0) (by decide +kernel) rfl rfl rfl (by decide +kernel)
set_option maxRecDepth 65536 in
theorem w_c8 : (Jvm.Cond.code ({ cls := "com/example/seatwright/seatwright/engine/Bucket", name := "isFull", desc := "()Z" } : Jvm.MethodName) prog_6_method_6_code (1 : Nat) (Option.some Jvm.ClassFile.FieldType.boolean)).before args0 about1 = true := code_word (m := ⟨9, 2⟩) (meth := k9m2) (c := k9c2) (by decide +kernel) rfl rfl rfl (by decide +kernel)
set_option maxRecDepth 65536 in
theorem w_c9 : (Jvm.Cond.code ({ cls := "com/example/seatwright/seatwright/engine/Bucket", name := "free", desc := "()I" } : Jvm.MethodName) prog_6_method_5_code (1 : Nat) (Option.some Jvm.ClassFile.FieldType.int)).before args0 about1 = true := code_word (m := ⟨9, 1⟩) (meth := k9m1) (c := k9c1) (by decide +kernel) rfl rfl rfl (by decide +kernel)
def codes1 : List Jvm.Cond := [Jvm.Cond.code x code maxLocals ret, Jvm.Cond.code ({ cls := "java/lang/String", name := "<init>", desc := "([C)V" } : Jvm.MethodName) jdk_42_method_3_code (2 : Nat) (Option.none : Option Jvm.ClassFile.FieldType), Jvm.Cond.code ({ cls := "java/lang/String", name := "<init>", desc := "([CIILjava/lang/Void;)V" } : Jvm.MethodName) jdk_42_method_149_code (6 : Nat) (Option.none : Option Jvm.ClassFile.FieldType), Jvm.Cond.code ({ cls := "java/lang/Object", name := "<init>", desc := "()V" } : Jvm.MethodName) object_method_1_code (1 : Nat) (Option.none : Option Jvm.ClassFile.FieldType), Jvm.Cond.code ({ cls := "java/lang/StringUTF16", name := "compress", desc := "([CII)[B" } : Jvm.MethodName) jdk_52_method_16_code (6 : Nat) (Option.some (Jvm.ClassFile.FieldType.array Jvm.ClassFile.FieldType.byte)), Jvm.Cond.code ({ cls := "java/lang/StringUTF16", name := "compress", desc := "([CI[BII)I" } : Jvm.MethodName) jdk_52_method_21_code (7 : Nat) (Option.some Jvm.ClassFile.FieldType.int), Jvm.Cond.code ({ cls := "java/lang/StringUTF16", name := "coderFromArrayLen", desc := "([BI)B" } : Jvm.MethodName) jdk_52_method_15_code (2 : Nat) (Option.some Jvm.ClassFile.FieldType.byte), Jvm.Cond.code ({ cls := "com/example/seatwright/seatwright/engine/Bucket", name := "<init>", desc := "(Ljava/lang/String;II)V" } : Jvm.MethodName) prog_6_method_1_code (4 : Nat) (Option.none : Option Jvm.ClassFile.FieldType), Jvm.Cond.code ({ cls := "com/example/seatwright/seatwright/engine/Bucket", name := "isFull", desc := "()Z" } : Jvm.MethodName) prog_6_method_6_code (1 : Nat) (Option.some Jvm.ClassFile.FieldType.boolean), Jvm.Cond.code ({ cls := "com/example/seatwright/seatwright/engine/Bucket", name := "free", desc := "()I" } : Jvm.MethodName) prog_6_method_5_code (1 : Nat) (Option.some Jvm.ClassFile.FieldType.int)]
set_option maxRecDepth 65536 in
theorem codes_eq : words1.filter isCode = codes1 := rfl
theorem w_codes : ∀ c ∈ words1.filter isCode, c.before args0 about1 = true := by
  rw [codes_eq]
  intro c hc
  simp only [codes1, List.mem_cons, List.not_mem_nil, or_false] at hc
  rcases hc with rfl | rfl | rfl | rfl | rfl | rfl | rfl | rfl | rfl | rfl
  · exact w_c0
  · exact w_c1
  · exact w_c2
  · exact w_c3
  · exact w_c4
  · exact w_c5
  · exact w_c6
  · exact w_c7
  · exact w_c8
  · exact w_c9
set_option maxRecDepth 65536 in
theorem w_t1 : (words1.take 24).all (fun c => isCode c || c.before args0 about1) = true := by decide +kernel
set_option maxRecDepth 65536 in
theorem w_t2 : ((words1.drop 24).take 24).all (fun c => isCode c || c.before args0 about1) = true := by decide +kernel
set_option maxRecDepth 65536 in
theorem w_t3 : ((words1.drop 24).drop 24).all (fun c => isCode c || c.before args0 about1) = true := by decide +kernel
theorem w_tables : (allAtoms (Jvm.Cond.code x code maxLocals ret :: tables_1)).before args0 about1 = true := by
  rw [allAtoms_all]
  show words1.all (fun c => c.before args0 about1) = true
  refine all_split ?_ w_codes
  rw [← List.take_append_drop 24 words1, List.all_append, w_t1, ← List.take_append_drop 24 (words1.drop 24), List.all_append, w_t2, w_t3]
  rfl
set_option maxRecDepth 65536 in
theorem w_rest : rest_1_c.before args0 about1 = true := by decide +kernel
set_option maxRecDepth 65536 in
theorem w_case : (Jvm.Cond.and given_1 narrow_1).before args0 about1 = true := by decide +kernel
theorem w_applies : (headSpec (Jvm.Cond.code x code maxLocals ret :: tables_1) room_1).applies x e0.platform about1 = true :=
  (Spec.applies_iff w_frames).mpr ⟨w_running, w_runnable, w_alone, w_named, w_hears, w_ripe, w_room, w_tables⟩
theorem atStart : AtStart classFile x code maxLocals ret World_1 tables_1 room_1 Calls_1 rest_1 Pre_1 launch0 p0 e0 about1 theMethod args0 below0 :=
  ⟨lists_1, trivial, launch0.admits_env _ _ _, launch0.least_env, fairChoices_fair.cas, fairChoices_fair.clock, w_frames, w_args, w_heap, w_applies, trivial, w_rest, w_case⟩
end start1
theorem witness_1 : WitnessClaimed_1 := ⟨start1.p0, start1.e0, start1.about1, start1.theMethod, start1.args0, start1.below0, start1.atStart⟩
end Jvm.Pilot.@@N@@
